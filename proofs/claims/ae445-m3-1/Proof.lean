import JvmDerived
import JvmDerived.Pilot.@@N@@Statement
import JvmDerived.Pilot.@@N@@Code
set_option linter.unusedVariables false
set_option linter.unusedSimpArgs false
set_option maxRecDepth 65536
set_option maxHeartbeats 40000000
namespace Jvm.Pilot.@@N@@
open Jvm Jvm.ClassFile Sem Op Lib Jvm.Free Jvm.Stand Jvm.LawKit Jvm.RoadKit Bundle Jvm.Pilot.@@N@@.Jvm.D
/-! own: the walk by continuation -/
def Go (p : Program) (e : Env) (below : List Frame) (A : State) (G : Outcome → State → Prop) : Prop :=
  ∃ s₂ o, Steps p.tables e below A s₂ ∧ s₂.status = .running ∧ Ended s₂ below o ∧ G o s₂
section Own
variable {p : Program} {l : Launch} {e : Env} {R : Room} {s : State} {m : MethodId} {args : Array Value} {below : List Frame} {meth : Method} {c : Code} {T : State} {locs : List Loc} {cells slots : Nat} {G : Outcome → State → Prop} {A B : State}
theorem go_of (h : ∀ t, Steps p.tables e below B t → Steps p.tables e below A t) (k : Go p e below B G) : Go p e below A G := by
  obtain ⟨s₂, o, h1, h2⟩ := k; exact ⟨s₂, o, h _ h1, h2⟩
theorem go_tr (h : Steps p.tables e below A B) (k : Go p e below B G) : Go p e below A G := go_of (fun _ q => h.trans q) k
theorem go_end (X : Stand p l e R s m args below meth c T locs cells slots) {v : Option Value} (hv : meth.sig.returnType = none → v = none) (hlocks : meth.locks = false) {C S : Nat} (hc : cells ≤ C) (hs : slots ≤ S)
    {Q : Option Value → Heap → List Loc → Prop} (hQ : Q v T.heap locs) {f : JFrame}
    (st : ∀ fs, (∀ (f : JFrame) (acts : List Action), f.method = m → f.locked = none → f.entered = [] → (doReturn e (T.setTop f) acts v).1 = T.setFrames fs) → Steps p.tables e below (T.setTop f) (T.setFrames fs)) :
    Go p e below (T.setTop f) (fun o U' => ∃ v L, o = .returned v ∧ Q v U'.heap L ∧ FrameEnd s o U' L C S) := by
  obtain ⟨fs, hr, hrun, hended, hW, hsame⟩ := X.leave (v := v) hv hlocks
  exact ⟨_, _, st fs hr, hrun, hended, _, _, rfl, hQ, ⟨_, rfl⟩, hW, hsame.mono hc hs⟩
theorem go_endW {vm : Vm} (X : Stand p l e R (s.setVm vm) m args below meth c T locs cells slots) {k : Nat} (hS : s.Since vm k) (hk : k ≤ T.heap.size) {v : Option Value} (hv : meth.sig.returnType = none → v = none) (hlocks : meth.locks = false) {C S : Nat} (hc : cells ≤ C) (hs : slots ≤ S)
    {Q : Option Value → Heap → List Loc → Prop} (hQ : Q v T.heap locs) {f : JFrame}
    (st : ∀ fs, (∀ (f : JFrame) (acts : List Action), f.method = m → f.locked = none → f.entered = [] → (doReturn e (T.setTop f) acts v).1 = T.setFrames fs) → Steps p.tables e below (T.setTop f) (T.setFrames fs)) :
    Go p e below (T.setTop f) (fun o U' => ∃ v L, o = .returned v ∧ Q v U'.heap L ∧ ReturnedEndW s o U' L C S) := by
  obtain ⟨fs, hr, hrun, hended, e1, e2, e3, e4⟩ := X.leaveW hS hk (v := v) hv hlocks
  exact ⟨_, _, st fs hr, hrun, hended, _, _, rfl, hQ, e1, e2, e3, e4.mono hc hs⟩
theorem go_endH {Z : State} {a0 : Array Value} {EL : List (String × Nat)} {vm : Vm} {h0 h1 : Heap} (X : Stand p l e R (s.setVm vm) m args below meth c T locs cells slots) (hZ : Z.Warmed39 vm) (hEL : EW Z a0 EL) (HC : CHr Z EL s.vm h0 vm h1) (hh : s.heap = h0) (eT : T.heap = h1) {k : Nat} (hS : s.Since vm k) (hk : k ≤ T.heap.size) {v : Option Value} (hv : meth.sig.returnType = none → v = none) (hlocks : meth.locks = false) {C S : Nat} (hc : cells ≤ C) (hs : slots ≤ S)
    {Q : Option Value → Heap → List Loc → Prop} (hQ : Q v T.heap locs) {f : JFrame}
    (st : ∀ fs, (∀ (f : JFrame) (acts : List Action), f.method = m → f.locked = none → f.entered = [] → (doReturn e (T.setTop f) acts v).1 = T.setFrames fs) → Steps p.tables e below (T.setTop f) (T.setFrames fs)) :
    Go p e below (T.setTop f) (fun o U' => ∃ v L, o = .returned v ∧ Q v U'.heap L ∧ CHr Z EL s.vm s.heap U'.vm U'.heap ∧ ReturnedEndW s o U' L C S) := by
  obtain ⟨fs, hr, hrun, hended, e1, e2, e3, e4⟩ := X.leaveW hS hk (v := v) hv hlocks
  refine ⟨_, _, st fs hr, hrun, hended, _, _, rfl, hQ, ?_, e1, e2, e3, e4.mono hc hs⟩
  subst hh eT
  have q := HC.trans (CHv.at X hZ hEL HC.1)
  exact q
theorem own_retI (X : Stand p l e R s m args below meth c T locs cells slots) (hx : p.tables.exec = Jvm.exec) {pc : Nat} {Ls : Array Slot} {z : Int32} {rest : List Value} (hret : meth.sig.returnType = some .int) (hd : decode c.code pc = .ok (.ireturn, 1)) {fs : List Frame}
    (hl : ∀ (f : JFrame) (acts : List Action), f.method = m → f.locked = none → f.entered = [] → (doReturn e (T.setTop f) acts (some (.int z))).1 = T.setFrames fs) : Steps p.tables e below (T.setTop (mkF m pc Ls (.int z :: rest))) (T.setFrames fs) :=
  retOut X hx hret rfl (Or.inl ⟨rfl, Or.inl rfl, _, rfl⟩) hd hl
theorem own_retL (X : Stand p l e R s m args below meth c T locs cells slots) (hx : p.tables.exec = Jvm.exec) {pc : Nat} {Ls : Array Slot} {z : Int64} {rest : List Value} (hret : meth.sig.returnType = some .long) (hd : decode c.code pc = .ok (.lreturn, 1)) {fs : List Frame}
    (hl : ∀ (f : JFrame) (acts : List Action), f.method = m → f.locked = none → f.entered = [] → (doReturn e (T.setTop f) acts (some (.long z))).1 = T.setFrames fs) : Steps p.tables e below (T.setTop (mkF m pc Ls (.long z :: rest))) (T.setFrames fs) :=
  retOut X hx hret rfl (Or.inr (Or.inl ⟨rfl, rfl, _, rfl⟩)) hd hl
theorem own_retA (X : Stand p l e R s m args below meth c T locs cells slots) (hx : p.tables.exec = Jvm.exec) {pc : Nat} {Ls : Array Slot} {w : Value} {t : FieldType} {rest : List Value} (hret : meth.sig.returnType = some t) (ht : t.isReference = true) (hw : w.isRef = true) (hd : decode c.code pc = .ok (.areturn, 1)) {fs : List Frame}
    (hl : ∀ (f : JFrame) (acts : List Action), f.method = m → f.locked = none → f.entered = [] → (doReturn e (T.setTop f) acts (some w)).1 = T.setFrames fs) : Steps p.tables e below (T.setTop (mkF m pc Ls (w :: rest))) (T.setFrames fs) :=
  retOut X hx hret (by cases t <;> first | rfl | (cases ht; done)) (Or.inr (Or.inr (Or.inr (Or.inr ⟨rfl, ht, hw⟩)))) hd hl
theorem own_fldI {t : Term} {C n d : String} {k : Int32} {a : Addr} (ev : t.eval args s none [] s = some (.ref a)) (h : (Jvm.Cond.eq (.field t C n d) (.int k)).value args s none s [] = some true) : Fld s s.heap a C n d (.int k) := by
  obtain ⟨x, y, h1, h2, -, kyx⟩ := cmp_v (Or.inl h)
  have e2 : y = .int k := (Option.some.inj (h2.symm.trans (Term.int_eval k)))
  subst e2
  obtain ⟨z, rfl⟩ := kyx
  have hz : z = k := by simpa [Cond.value, h1, Term.int_eval] using h
  subst hz
  rw [fld_at ev] at h1
  exact Fld.start h1
theorem own_tsw (X : Stand p l e R s m args below meth c T locs cells slots) (hexec : p.tables.exec = Jvm.exec) {g : JFrame} (hg : g.method = m) {k : Int32} {rest : List Value} (hstack : g.stack = .int k :: rest) {default low high : Int} {offsets : Array Int} {len pc0 pc' : Nat} (hpc : g.pc = pc0)
    (hdg : decode c.code g.pc = .ok (.tableswitch default low high offsets, len)) (ki : Int) (hk : k.toInt = ki) (hin : ¬ (ki < low ∨ ki > high)) (off : Int) (hoffs : offsets[(ki - low).toNat]? = some off) (hoff : 0 ≤ (pc0 : Int) + off) (hp : ((pc0 : Int) + off).toNat = pc') {target : State}
    (hr : Steps p.tables e below (T.setTop { g with pc := pc', stack := rest }) target) : Steps p.tables e below (T.setTop g) target := by
  subst hpc hk hp; exact X.tableswitchIn hexec hg hstack hdg hin hoffs hoff target hr
theorem own_ne {a b : Addr} (h : @Ne Nat a b) : a ≠ b := h
theorem own_lt {a b : Nat} (h : @LT.lt Nat instLTNat a b) : @LT.lt Nat instLTNat a b := h
theorem own_le {a b : Nat} (h : @LE.le Nat instLENat a b) : @LE.le Nat instLENat a b := h
theorem own_nlt {a : Addr} {n : Nat} (h : a < n) : @LT.lt Nat instLTNat a n := h
theorem own_nle {a : Nat} {b : Addr} (h : a ≤ b) : @LE.le Nat instLENat a b := h
theorem own_inskeep {Z : State} {h h' : Heap} {a : Addr} {C : String} {ws : List Addr} (F : Ins Z h a C true) (K : Keep h h' ws) : Ins Z h' a C true := by
  obtain ⟨cell, cT, h1, h2, h3⟩ := F; obtain ⟨c', q, r1, r2, -⟩ := K.2.2 a cell h1; exact ⟨c', cT, q, h2, by rw [r1, r2]; exact h3⟩
theorem own_inslt {Z : State} {h : Heap} {a : Addr} {C : String} {b : Bool} (F : Ins Z h a C b) : a < h.size := by obtain ⟨_, _, h1, -⟩ := F; exact (Array.getElem?_eq_some_iff.mp h1).1
theorem own_kx {h h' : Heap} (K : Keep h h' []) : Ext h h' := ⟨K.1, fun a c q => K.2.1 a c q nin0⟩
theorem own_cache {t : Term} {C : String} {q : Jvm.Cond} {cl : Cell} {a : Addr} {ty : FieldType} (ev : ∀ idx, t.eval args s none idx s = some (.ref a)) (Ar : Arr s s.heap a cl ty)
    (h : (Jvm.Cond.all t (.and (.exactly (.elem t (.index 0)) C) q)).value args s none s [] = some true) (hz : cl.slots.size = 256) : ∀ i, i < 256 → ∃ w, cl.slots[i]? = some (.ref w) ∧ Exa s s.heap w C := fun i hi => by
  have hat : s.arrayAt? a = some cl := Arr.fin (Vm.Alike.refl _) Ar
  have hv := Cond.all_elim (ev []) hat h i (by rw [hz]; exact hi)
  obtain ⟨h1, -⟩ := and_e hv
  obtain ⟨w, ew⟩ := exa_v h1
  have ex := exa_at ew h1
  obtain ⟨p1, p2⟩ := IntBox.place_nonneg i hi
  rw [elem_f (ev [i]) (j := i.toInt32) rfl hat p1, p2] at ew
  exact ⟨w, ew, ex⟩
theorem own_stev {C n d : String} {v : Value} (h : (Term.static C n d).eval args s none [] s = some v) (idx : List Nat) : (Term.static C n d).eval args s none idx s = some v := h
theorem own_len {t : Term} {a : Addr} {cl : Cell} {ty : FieldType} {k : Int32} (ev : t.eval args s none [] s = some (.ref a)) (Ar : Arr s s.heap a cl ty) (h : (Jvm.Cond.eq (.length t) (.int k)).value args s none s [] = some true) (hk : ¬ k < 0) : cl.slots.size = k.toNatClampNeg := by
  have hat : s.arrayAt? a = some cl := Arr.fin (Vm.Alike.refl _) Ar
  obtain ⟨x, y, h1, h2, -, kyx⟩ := cmp_v (Or.inl h)
  have e2 : y = .int k := (Option.some.inj (h2.symm.trans (Term.int_eval k)))
  subst e2
  obtain ⟨z, rfl⟩ := kyx
  have hz : z = k := by simpa [Cond.value, h1, Term.int_eval] using h
  subst hz
  have hl : cl.slots.size < 2 ^ 31 := by
    by_cases q : cl.slots.size < 2 ^ 31
    · exact q
    · simp [Term.eval, ev, hat, q] at h1
  rw [len_f ev hat hl] at h1
  have h3 : cl.slots.size.toInt32 = z := by simpa using h1
  rw [← h3]
  have h4 := len_toInt hl
  simp only [Int32.toNatClampNeg, h4]; rfl
end Own
abbrev TW (a0 : Array Value) (Z : State) : Prop := ∀ d ∈ tables_1, d.before a0 Z = true
abbrev own_MF (l : Launch) (Z : State) (y : MethodName) (bytes : ByteArray) (maxL : Nat) (ret : Option FieldType) (ws : List Cond) (rm : Room) (A : Array Value) (h0 : Heap) (Q : Option Value → Heap → List Loc → Prop) : Prop := MetFree l y (head1 (Jvm.Cond.code y bytes maxL ret :: ws) rm) (fun a U => a = A ∧ Z.Warmed39 U.vm ∧ U.heap = h0) (fun _ _ _ _ _ => True) (fun _ U o U' => ∃ v L, o = .returned v ∧ Q v U'.heap L ∧ FrameEnd U o U' L rm.cells rm.slots)
abbrev own_MFW (l : Launch) (Z : State) (y : MethodName) (bytes : ByteArray) (maxL : Nat) (ret : Option FieldType) (ws : List Cond) (rm : Room) (A : Array Value) (h0 : Heap) (Q : Option Value → Heap → List Loc → Prop) : Prop := MetFree l y (head1 (Jvm.Cond.code y bytes maxL ret :: ws) rm) (fun a U => a = A ∧ Z.Warmed39 U.vm ∧ U.heap = h0) (fun _ _ _ _ _ => True) (fun _ U o U' => ∃ v L, o = .returned v ∧ Q v U'.heap L ∧ ReturnedEndW U o U' L rm.cells rm.slots)
abbrev MN0 : MethodName := ⟨"com/example/grantline/grantline/Glob", "isLiteral", "(Ljava/lang/String;)Z"⟩
abbrev MN1 : MethodName := ⟨"com/example/grantline/grantline/GlobIsLiteralPinLaw", "ch", "(I)C"⟩
abbrev MN2 : MethodName := ⟨"com/example/grantline/grantline/GlobIsLiteralPinLaw", "wild", "(C)Z"⟩
abbrev MN3 : MethodName := ⟨"java/lang/Math", "max", "(II)I"⟩
abbrev MN4 : MethodName := ⟨"java/lang/Math", "min", "(II)I"⟩
abbrev MN5 : MethodName := ⟨"java/lang/String", "<init>", "([C)V"⟩
abbrev MN6 : MethodName := ⟨"java/lang/String", "<init>", "([CIILjava/lang/Void;)V"⟩
abbrev MN7 : MethodName := ⟨"java/lang/String", "coder", "()B"⟩
abbrev MN8 : MethodName := ⟨"java/lang/String", "indexOf", "(I)I"⟩
abbrev MN9 : MethodName := ⟨"java/lang/String", "indexOf", "(II)I"⟩
abbrev MN10 : MethodName := ⟨"java/lang/String", "isLatin1", "()Z"⟩
abbrev MN11 : MethodName := ⟨"java/lang/String", "length", "()I"⟩
abbrev MN12 : MethodName := ⟨"java/lang/StringLatin1", "canEncode", "(I)Z"⟩
abbrev MN13 : MethodName := ⟨"java/lang/StringLatin1", "indexOf", "([BIII)I"⟩
abbrev MN14 : MethodName := ⟨"java/lang/StringLatin1", "indexOfChar", "([BIII)I"⟩
abbrev MN15 : MethodName := ⟨"java/lang/StringUTF16", "checkBoundsBeginEnd", "(II[B)V"⟩
abbrev MN16 : MethodName := ⟨"java/lang/StringUTF16", "coderFromArrayLen", "([BI)B"⟩
abbrev MN17 : MethodName := ⟨"java/lang/StringUTF16", "compress", "([CII)[B"⟩
abbrev MN18 : MethodName := ⟨"java/lang/StringUTF16", "compress", "([CI[BII)I"⟩
abbrev MN19 : MethodName := ⟨"java/lang/StringUTF16", "getChar", "([BI)C"⟩
abbrev MN20 : MethodName := ⟨"java/lang/StringUTF16", "indexOf", "([BIII)I"⟩
abbrev MN21 : MethodName := ⟨"java/lang/StringUTF16", "indexOfChar", "([BIII)I"⟩
abbrev MN22 : MethodName := ⟨"java/lang/StringUTF16", "indexOfCharUnsafe", "([BIII)I"⟩
abbrev MN23 : MethodName := ⟨"java/lang/StringUTF16", "newBytesFor", "(I)[B"⟩
abbrev MN24 : MethodName := ⟨"java/lang/StringUTF16", "newBytesLength", "(I)I"⟩
abbrev MN25 : MethodName := ⟨"java/lang/StringUTF16", "putChar", "([BII)V"⟩
abbrev MN26 : MethodName := ⟨"java/lang/StringUTF16", "toBytes", "([CII)[B"⟩
theorem own_wd {a0 : Array Value} {Z : State} (hw : TW a0 Z) (i : Nat) {d : Jvm.Cond} (h : tables_1[i]? = some d) : d.before a0 Z = true := hw _ (List.mem_of_getElem? h)
abbrev own_R (f c s l : Nat) : Room := { frames := f, cells := c, slots := s, locals := l }
theorem own_wS {a0 : Array Value} {Z : State} (hw : ∀ d ∈ tables_1, d.before a0 Z = true) : ∀ a ∈ Bundle.stringAtoms, a.before a0 Z = true := by
  intro a ha
  simp only [Bundle.stringAtoms, List.mem_cons, List.not_mem_nil, or_false] at ha
  rcases ha with rfl | rfl | rfl | rfl | rfl | rfl | rfl
  · exact hw _ (List.mem_of_getElem? (i := 9) rfl)
  · exact hw _ (List.mem_of_getElem? (i := 8) rfl)
  · exact hw _ (List.mem_of_getElem? (i := 21) rfl)
  · exact hw _ (List.mem_of_getElem? (i := 22) rfl)
  · exact hw _ (List.mem_of_getElem? (i := 23) rfl)
  · exact hw _ (List.mem_of_getElem? (i := 24) rfl)
  · exact hw _ (List.mem_of_getElem? (i := 25) rfl)
theorem own_fI {a0 : Array Value} {Z : State} {K : String} {n : Nat} (w : (Cond.instantiable K n).before a0 Z = true) : ∃ t k, Z.vm.findClass K = some t ∧ Z.vm.classes[t]? = some k ∧ k.kind = .ordinary ∧ k.isInterface = false := by
  obtain ⟨c, k, h1, h2, h3, h4, -⟩ := Cond.instantiable_spec w
  exact ⟨c, k, h1, h2, h3, by cases q : k.isInterface <;> simp_all⟩
theorem own_nsroot {a0 : Array Value} {Z : State} {O K : String} {n : Nat} (w : (Cond.noSuperclass O).before a0 Z = true) (wk : (Cond.instantiable K n).before a0 Z = true) (hn : O ≠ K) : NS Z O K := by
  obtain ⟨c, k, h1, h2, h3, -, -⟩ := Cond.noSuperclass_spec w
  obtain ⟨t, kt, g1, -⟩ := own_fI wk
  have ne := ids_ne h1 g1 hn
  refine ⟨c, t, h1, g1, fun fuel => ?_⟩
  cases fuel with
  | zero => rfl
  | succ f => simp [Vm.isSubclassAux, ne, h2, h3]
theorem own_nsno {a0 : Array Value} {Z : State} {C S K : String} {n : Nat} (w : (Cond.superclass C S).before a0 Z = true) (wk : (Cond.instantiable K n).before a0 Z = true) (nn : NS Z C K) (hn : C ≠ K) : ∃ c t, Z.vm.findClass C = some c ∧ Z.vm.findClass K = some t ∧ Z.vm.assignable c t = false := by
  obtain ⟨c, t, h0, g0, n3⟩ := nn
  obtain ⟨p, k, kp, h1, h2, h3, h4, h5, -, h7⟩ := Cond.superclass_spec h0 w
  obtain ⟨t', k', g1, g2, g5, g7⟩ := own_fI wk
  cases g0.symm.trans g1
  have ne := ids_ne h0 g0 hn
  refine ⟨c, t, h0, g0, ?_⟩
  show Z.vm.assignableAux (255 + 1) c t = false
  simp [Vm.assignableAux, ne, h2, g2, h5, g5, g7, Vm.isSubclass, n3]

theorem own_safe_null {Z : State} {EL : List (String × Nat)} {vm : Vm} {h : Heap} {x : Addr} (hal : Z.vm.Alike vm) (E : Exa Z h x "java/lang/String") (F : Fld Z h x "java/lang/String" "value" "[B" .null) : Safe Z EL vm h x := fun B => by
  obtain ⟨p, -, u, a, -, q, -, G, rfl | rfl⟩ := B
  · obtain ⟨cS, ⟨⟨s1, s2, s3, ⟨cv, kv, iv, s4, s4'⟩, ⟨cc, kc, ic, s5, s5'⟩, s6, s7, s8, -⟩, hfS, hcS⟩, -⟩ := G
    obtain ⟨cell, cf, k, i, f, f1, f2, f3, f4, f5, f6, f7⟩ := F
    obtain ⟨kv', z4⟩ := ff_back (U := Wst Z vm h) hal s4
    cases (show h[q.sa]? = some q.sC from s1).symm.trans f1
    cases z4.symm.trans f2
    cases s8.symm.trans f7
  · obtain ⟨cell, k, e1, e2, e3, -, -⟩ := E
    cases (show h[q.sd]? = some q.SA from G.hd).symm.trans e1
    obtain ⟨cS, -, -, f, -⟩ := G
    have f' : vm.findClass "[B" = some q.SA.cls := f
    rw [hal.findClass] at f'
    exact ids_ne f' e2 (by decide) rfl
theorem own_safe_arv {Z : State} {EL : List (String × Nat)} {vm : Vm} {h : Heap} {x : Addr} {k : ClassId} {ty : FieldType} {n : Int32} {vs : List Value} {d : Value} (hal : Z.vm.Alike vm) (A : Arv Z h x k ty n vs d) (ht : ty ≠ .byte) : Safe Z EL vm h x := by
  obtain ⟨cl, Ar, -⟩ := A; exact Safe.arr hal Ar ht
/-- an ordinary object that is no String -/
def Ord (Z : State) (h : Heap) (o : Addr) : Prop := ∃ (cell : Cell) (k : Class), h[o]? = some cell ∧ Z.vm.classes[cell.cls]? = some k ∧ k.kind = .ordinary ∧ Z.vm.findClass "java/lang/String" ≠ some cell.cls
theorem Ord.of {Z : State} {h : Heap} {o : Addr} {a0 : Array Value} {C : String} {n : Nat} (E : Exa Z h o C) (w : (Cond.instantiable C n).before a0 Z = true) (hn : C ≠ "java/lang/String") : Ord Z h o := by
  obtain ⟨cell, k, e1, e2, e3, -, -⟩ := E
  obtain ⟨t, k', f1, f2, f3, -⟩ := own_fI w
  cases e2.symm.trans f1
  cases e3.symm.trans f2
  exact ⟨cell, k, e1, e3, f3, fun q => ids_ne e2 q hn rfl⟩
theorem Ord.ne {Z : State} {h : Heap} {o t : Addr} {k : ClassId} {ty : FieldType} {n : Int32} {vs : List Value} {d : Value} (F : Ord Z h o) (A : Arv Z h t k ty n vs d) : t ≠ o := fun e => by
  subst e
  obtain ⟨cell, kk, f1, f2, f3, -⟩ := F
  obtain ⟨c, ⟨a1, ⟨-, k2, a2, comp, a3⟩, -⟩, -⟩ := A
  cases f1.symm.trans a1
  cases f2.symm.trans a2
  rw [f3] at a3; cases a3
theorem Ord.ne' {Z : State} {h : Heap} {o a : Addr} (F : Ord Z h o) (E : Exa Z h a "java/lang/String") : a ≠ o := fun e => by
  subst e
  obtain ⟨cell, kk, f1, f2, f3, f4⟩ := F
  obtain ⟨c, k, e1, e2, -⟩ := E
  cases f1.symm.trans e1
  exact f4 e2

def own_EL : List (String × Nat) := [("java/lang/String", 7)]
abbrev own_MFH (l : Launch) (Z : State) (y : MethodName) (bytes : ByteArray) (maxL : Nat) (ret : Option FieldType) (ws : List Cond) (rm : Room) (A : Array Value) (h0 : Heap) (Q : Option Value → Heap → List Loc → Prop) : Prop := MetFree l y (head1 (Jvm.Cond.code y bytes maxL ret :: ws) rm) (fun a U => a = A ∧ Z.Warmed39 U.vm ∧ U.heap = h0 ∧ CHv Z own_EL U.vm h0) (fun _ _ _ _ _ => True) (fun _ U o U' => ∃ v L, o = .returned v ∧ Q v U'.heap L ∧ CHr Z own_EL U.vm U.heap U'.vm U'.heap ∧ ReturnedEndW U o U' L rm.cells rm.slots)
theorem own_EW {a0 : Array Value} {Z : State} (hw : ∀ d ∈ tables_1, d.before a0 Z = true) : EW Z a0 own_EL := EW.cons (hw _ (List.mem_of_getElem? (i := 20) rfl)) (by decide) (EW.nil)
abbrev own_b8 (c : Int32) : Int32 := c.toInt8.toInt32
theorem own_bb (c : Int32) : c.toInt8.toInt32.toInt8.toInt32 = c.toInt8.toInt32 := by simp
/-- a String of Latin-1 chars -/
def Str (Z : State) (h : Heap) (a : Addr) (n : Int32) (cs : List Int32) : Prop := ∃ (t : Addr) (k : ClassId), Exa Z h a "java/lang/String" ∧ Fld Z h a "java/lang/String" "coder" "B" (.int 0) ∧ Fld Z h a "java/lang/String" "value" "[B" (.ref t) ∧ Arv Z h t k .byte n (cs.map fun c => .int (own_b8 c)) (.int 0) ∧ (∀ c ∈ cs, ¬ c < 0 ∧ ¬ (255 : Int32) < c)
theorem Str.ext {Z : State} {h h' : Heap} {a : Addr} {n : Int32} {cs : List Int32} (F : Str Z h a n cs) (E : Ext h h') : Str Z h' a n cs := by
  obtain ⟨t, k, f1, f2, f3, f4, f5⟩ := F; exact ⟨t, k, f1.ext E, f2.ext E, f3.ext E, f4.ext E, f5⟩
theorem Str.lt {Z : State} {h : Heap} {a : Addr} {n : Int32} {cs : List Int32} (F : Str Z h a n cs) : a < h.size := by obtain ⟨t, k, f1, -⟩ := F; exact f1.lt
theorem Str.exa {Z : State} {h : Heap} {a : Addr} {n : Int32} {cs : List Int32} (F : Str Z h a n cs) : Exa Z h a "java/lang/String" := by obtain ⟨t, k, f1, -⟩ := F; exact f1
theorem own_allc {P : Int32 → Prop} {c : Int32} {cs : List Int32} (h : P c) (r : ∀ x ∈ cs, P x) : ∀ x ∈ c :: cs, P x := fun x q => (List.mem_cons.mp q).elim (fun e => e ▸ h) (r x)
theorem own_narc {c : Int32} (h : ¬ c < 0 ∧ ¬ (255 : Int32) < c) : nar .char c = c := by
  have h1 := c_i2c c
  apply Int32.toInt_inj.mp
  have e0 : (0 : Int32).toInt = 0 := rfl
  have e1 : (255 : Int32).toInt = 255 := rfl
  have h2 := h.1; have h3 := h.2
  rw [Int32.lt_iff_toInt_lt] at h2 h3
  show c.toUInt32.toUInt16.toUInt32.toInt32.toInt = c.toInt
  omega
theorem own_b255 {c : Int32} (h : ¬ c < 0 ∧ ¬ (255 : Int32) < c) : (own_b8 c &&& (255 : Int32)).toUInt32.toUInt16.toUInt32.toInt32 = c := by
  have h1 := c_i2b c
  have h4 : (own_b8 c &&& (255 : Int32)).toInt = (own_b8 c).toInt % 256 := c_mask (own_b8 c) 255 8 (by decide) (by decide)
  have h5 := c_i2c (own_b8 c &&& (255 : Int32))
  apply Int32.toInt_inj.mp
  have e0 : (0 : Int32).toInt = 0 := rfl
  have e1 : (255 : Int32).toInt = 255 := rfl
  have h2 := h.1; have h3 := h.2
  rw [Int32.lt_iff_toInt_lt] at h2 h3
  have e8 : (own_b8 c).toInt = c.toInt8.toInt32.toInt := rfl
  omega
theorem own_b8inj {c d : Int32} (h : ¬ c < 0 ∧ ¬ (255 : Int32) < c) (h' : ¬ d < 0 ∧ ¬ (255 : Int32) < d) (e : own_b8 c = own_b8 d) : c = d := by
  rw [← own_b255 h, ← own_b255 h', e]

def own_hs (w : Int32) : List Int32 → Bool
  | [] => false
  | b :: r => decide (b = w) || own_hs w r
theorem own_hsb (w : Int32) (hw : ¬ w < 0 ∧ ¬ (255 : Int32) < w) : ∀ cs : List Int32, (∀ c ∈ cs, ¬ c < 0 ∧ ¬ (255 : Int32) < c) → own_hs (own_b8 w) (cs.map own_b8) = own_hs w cs
  | [], _ => rfl
  | c :: cs, h => by
    have ih := own_hsb w hw cs (fun x q => h x (List.mem_cons_of_mem _ q))
    have e : (own_b8 c = own_b8 w) ↔ (c = w) := ⟨own_b8inj (h c (List.mem_cons_self ..)) hw, fun q => by rw [q]⟩
    simp only [List.map_cons, own_hs, ih, e]
theorem own_bt {b : Bool} (h : ¬ b = false) : b = true := by cases b; exact absurd rfl h; rfl

theorem own_narc16 {c : Int32} (h : ¬ c < 0 ∧ ¬ (65535 : Int32) < c) : nar .char c = c := by
  have h1 := c_i2c c
  apply Int32.toInt_inj.mp
  have e0 : (0 : Int32).toInt = 0 := rfl
  have e1 : (65535 : Int32).toInt = 65535 := rfl
  have h2 := h.1; have h3 := h.2
  rw [Int32.lt_iff_toInt_lt] at h2 h3
  show c.toUInt32.toUInt16.toUInt32.toInt32.toInt = c.toInt
  omega
abbrev own_b0 (c : Int32) : Int32 := (c >>> ((0 : Int32) &&& 31)).toInt8.toInt32
abbrev own_b1 (c : Int32) : Int32 := (c >>> ((8 : Int32) &&& 31)).toInt8.toInt32
theorem own_gc {c : Int32} (h : ¬ c < 0 ∧ ¬ (65535 : Int32) < c) : (((own_b0 c &&& (255 : Int32)) <<< ((0 : Int32) &&& 31)) ||| ((own_b1 c &&& (255 : Int32)) <<< ((8 : Int32) &&& 31))).toUInt32.toUInt16.toUInt32.toInt32 = c := by
  have e0 : (0 : Int32).toInt = 0 := rfl
  have e1 : (65535 : Int32).toInt = 65535 := rfl
  have h2 := h.1; have h3 := h.2
  rw [Int32.lt_iff_toInt_lt] at h2 h3
  have s0 : (c >>> ((0 : Int32) &&& 31)).toInt = c.toInt / 1 := c_ishr c 0 0 (by decide)
  have s1 : (c >>> ((8 : Int32) &&& 31)).toInt = c.toInt / 256 := c_ishr c 8 8 (by decide)
  have t0 := c_i2b (c >>> ((0 : Int32) &&& 31))
  have t1 := c_i2b (c >>> ((8 : Int32) &&& 31))
  have m0 : (own_b0 c &&& (255 : Int32)).toInt = (own_b0 c).toInt % 256 := c_mask (own_b0 c) 255 8 (by decide) (by decide)
  have m1 : (own_b1 c &&& (255 : Int32)).toInt = (own_b1 c).toInt % 256 := c_mask (own_b1 c) 255 8 (by decide) (by decide)
  have u0 : (own_b0 c).toInt = (c >>> ((0 : Int32) &&& 31)).toInt8.toInt32.toInt := rfl
  have u1 : (own_b1 c).toInt = (c >>> ((8 : Int32) &&& 31)).toInt8.toInt32.toInt := rfl
  generalize own_b0 c &&& (255 : Int32) = x at *
  generalize own_b1 c &&& (255 : Int32) = y at *
  have l0 : ((x <<< ((0 : Int32) &&& 31)).toInt - x.toInt * 1) % 4294967296 = 0 := c_ishl x 0 0 (by decide)
  have l1 : ((y <<< ((8 : Int32) &&& 31)).toInt - y.toInt * 256) % 4294967296 = 0 := c_ishl y 8 8 (by decide)
  have r0 := rng32 (x <<< ((0 : Int32) &&& 31))
  have r1 := rng32 (y <<< ((8 : Int32) &&& 31))
  generalize x <<< ((0 : Int32) &&& 31) = xx at *
  generalize y <<< ((8 : Int32) &&& 31) = yy at *
  have o := c_or' xx yy 8 (by decide) 256 rfl (by omega) (by omega) (by omega)
  have ro := rng32 (xx ||| yy)
  generalize xx ||| yy = z at *
  have i := c_i2c z
  apply Int32.toInt_inj.mp
  omega
theorem own_shr0 (z : Int32) : z >>> ((0 : Int32) &&& 31) = z := by
  apply Int32.toInt_inj.mp; rw [c_ishr z 0 0 (by decide)]; simp
def own_w16 : List Int32 → List Value
  | [] => []
  | c :: r => .int (own_b0 c) :: .int (own_b1 c) :: own_w16 r
def StrW (Z : State) (h : Heap) (a : Addr) (m : Int32) (cs : List Int32) : Prop := ∃ (t : Addr) (k : ClassId), Exa Z h a "java/lang/String" ∧ Fld Z h a "java/lang/String" "coder" "B" (.int 1) ∧ Fld Z h a "java/lang/String" "value" "[B" (.ref t) ∧ Arv Z h t k .byte m (own_w16 cs) (.int 0) ∧ (∀ c ∈ cs, ¬ c < 0 ∧ ¬ (65535 : Int32) < c)
def StrU (Z : State) (h : Heap) (a : Addr) (n m : Int32) (cs : List Int32) : Prop := Str Z h a n cs ∨ StrW Z h a m cs
theorem StrW.ext {Z : State} {h h' : Heap} {a : Addr} {n : Int32} {cs : List Int32} (F : StrW Z h a n cs) (E : Ext h h') : StrW Z h' a n cs := by
  obtain ⟨t, k, f1, f2, f3, f4, f5⟩ := F; exact ⟨t, k, f1.ext E, f2.ext E, f3.ext E, f4.ext E, f5⟩
theorem StrW.exa {Z : State} {h : Heap} {a : Addr} {n : Int32} {cs : List Int32} (F : StrW Z h a n cs) : Exa Z h a "java/lang/String" := by obtain ⟨t, k, f1, -⟩ := F; exact f1
theorem StrU.ext {Z : State} {h h' : Heap} {a : Addr} {n m : Int32} {cs : List Int32} (F : StrU Z h a n m cs) (E : Ext h h') : StrU Z h' a n m cs := F.elim (fun q => Or.inl (q.ext E)) (fun q => Or.inr (q.ext E))
theorem StrU.exa {Z : State} {h : Heap} {a : Addr} {n m : Int32} {cs : List Int32} (F : StrU Z h a n m cs) : Exa Z h a "java/lang/String" := F.elim (fun q => q.exa) (fun q => q.exa)
def US (Z : State) : Prop := Sta Z Z.heap "java/lang/StringUTF16" "$assertionsDisabled" "Z" (.int 1) ∧ Sta Z Z.heap "java/lang/StringUTF16" "HI_BYTE_SHIFT" "I" (.int 0) ∧ Sta Z Z.heap "java/lang/StringUTF16" "LO_BYTE_SHIFT" "I" (.int 8)

abbrev own_hi (va : Int32) : Int32 := (((va.toUInt32 >>> ((2 : Int32) &&& 31).toUInt32).toInt32) &&& (65535 : Int32)).toUInt32.toUInt16.toUInt32.toInt32
def own_gch (va : Int32) : Int32 := if (va &&& (3 : Int32)) = (0 : Int32) then 42 else if (va &&& (3 : Int32)) = (1 : Int32) then 63 else own_hi va
theorem own_hir (va : Int32) : ¬ own_hi va < 0 ∧ ¬ (65535 : Int32) < own_hi va := by
  have h5 := c_i2c (((va.toUInt32 >>> ((2 : Int32) &&& 31).toUInt32).toInt32) &&& (65535 : Int32))
  rw [Int32.lt_iff_toInt_lt, Int32.lt_iff_toInt_lt]
  have e1 : (65535 : Int32).toInt = 65535 := rfl; have e0 : (0 : Int32).toInt = 0 := rfl
  have e2 : (own_hi va).toInt = (((va.toUInt32 >>> ((2 : Int32) &&& 31).toUInt32).toInt32) &&& (65535 : Int32)).toUInt32.toUInt16.toUInt32.toInt32.toInt := rfl
  omega
theorem own_gchr (va : Int32) : ¬ own_gch va < 0 ∧ ¬ (65535 : Int32) < own_gch va := by
  unfold own_gch; split
  · decide
  · split
    · decide
    · exact own_hir va
def own_wl (w : Int32) : Int32 := bif (decide (w = 42) || decide (w = 63)) then 1 else 0
theorem own_wl0 (w : Int32) : (own_wl w = 0) = (¬ w = 42 ∧ ¬ w = 63) := by unfold own_wl; by_cases h : w = 42 <;> by_cases h' : w = 63 <;> simp [h, h']
def own_lit (cs : List Int32) : Int32 := bif (own_hs 42 cs || own_hs 63 cs) then 0 else 1
theorem own_lt64 {w : Int32} (h : ¬ w < 0 ∧ ¬ (255 : Int32) < w) : w < (65536 : Int32) := by
  have h3 := h.2
  rw [Int32.lt_iff_toInt_lt] at h3 ⊢
  have e1 : (255 : Int32).toInt = 255 := rfl; have e2 : (65536 : Int32).toInt = 65536 := rfl
  omega
theorem own_n5 (z : Int32) : ((z &&& (2147483647 : Int32)) % (5 : Int32)) = 0 ∨ ((z &&& (2147483647 : Int32)) % (5 : Int32)) = 1 ∨ ((z &&& (2147483647 : Int32)) % (5 : Int32)) = 2 ∨ ((z &&& (2147483647 : Int32)) % (5 : Int32)) = 3 ∨ ((z &&& (2147483647 : Int32)) % (5 : Int32)) = 4 := by
  have h : (z &&& (2147483647 : Int32)).toInt = z.toInt % 2147483648 := c_mask z 2147483647 31 (by decide) (by decide)
  generalize (z &&& (2147483647 : Int32)) = y at h
  have h1 := (c_irem y 5 5 rfl).1 (by omega)
  have e0 : (0 : Int32).toInt = 0 := rfl; have e1 : (1 : Int32).toInt = 1 := rfl; have e2 : (2 : Int32).toInt = 2 := rfl; have e3 : (3 : Int32).toInt = 3 := rfl; have e4 : (4 : Int32).toInt = 4 := rfl
  simp only [← Int32.toInt_inj]
  omega
theorem d1_0 : decode method_2_code 0 = .ok (.iload_n 0, 1) := by decide +kernel
theorem d1_1 : decode method_2_code 1 = .ok (.iconst 3, 1) := by decide +kernel
theorem d1_2 : decode method_2_code 2 = .ok (.iand, 1) := by decide +kernel
theorem d1_3 : decode method_2_code 3 = .ok (.istore_n 1, 1) := by decide +kernel
theorem d1_4 : decode method_2_code 4 = .ok (.iload_n 1, 1) := by decide +kernel
theorem d1_5 : decode method_2_code 5 = .ok (.ifCond .ne 6, 3) := by decide +kernel
theorem d1_8 : decode method_2_code 8 = .ok (.bipush 42, 2) := by decide +kernel
theorem d1_10 : decode method_2_code 10 = .ok (.ireturn, 1) := by decide +kernel
def Q_gch (Z : State) (va : Int32) (h0 : Heap) (n0 : Nat) (v : Option Value) (h : Heap) (L : List Loc) : Prop := v = some (.int (own_gch va)) ∧ Fr n0 L ∧ h = h0
theorem d1_11 : decode method_2_code 11 = .ok (.iload_n 1, 1) := by decide +kernel
theorem d1_12 : decode method_2_code 12 = .ok (.iconst 1, 1) := by decide +kernel
theorem d1_13 : decode method_2_code 13 = .ok (.if_icmp .ne 6, 3) := by decide +kernel
theorem d1_16 : decode method_2_code 16 = .ok (.bipush 63, 2) := by decide +kernel
theorem d1_18 : decode method_2_code 18 = .ok (.ireturn, 1) := by decide +kernel
theorem d1_19 : decode method_2_code 19 = .ok (.iload_n 0, 1) := by decide +kernel
theorem d1_20 : decode method_2_code 20 = .ok (.iconst 2, 1) := by decide +kernel
theorem d1_21 : decode method_2_code 21 = .ok (.iushr, 1) := by decide +kernel
theorem d1_22 : decode method_2_code 22 = .ok (.ldc 7, 2) := by decide +kernel
theorem d1_24 : decode method_2_code 24 = .ok (.iand, 1) := by decide +kernel
theorem d1_25 : decode method_2_code 25 = .ok (.i2c, 1) := by decide +kernel
theorem d1_26 : decode method_2_code 26 = .ok (.ireturn, 1) := by decide +kernel
theorem pn_com_example_grantline_grantline_GlobIsLiteralPinLaw : plainName "com/example/grantline/grantline/GlobIsLiteralPinLaw" = true := by first | (simp [plainName, overriddenIn]; done) | decide +kernel
theorem ef_gch (m : MethodId) (va : Int32)  : entryFrame m #[(.int va)] 2 = mkF m 0 #[.val (.int va), .unset] [] := by first | (simp [entryFrame, mkF, argsToLocals, Value.category]; done) | rfl
theorem gch (l : Launch) (Z : State) (a0 : Array Value) (hw : TW a0 Z) (ws : List Cond) (va : Int32) (h0 : Heap) (n0 : Nat) (Z0 : n0 ≤ h0.size)  :
    own_MF l Z MN1 method_2_code 2 (some .char) ws (own_R 0 0 0 0) #[(.int va)] h0 (Q_gch Z va h0 n0) := by
  have wd := @own_wd _ _ hw
  refine MetFree.of_bodySF (plainFor_of_name pn_com_example_grantline_grantline_GlobIsLiteralPinLaw) hisR ?_
  intro p e s m args below meth c s₁ Bd hml0 hP hK
  obtain ⟨rfl, hZ, hh⟩ := hP
  have hx := Bd.exec
  have hby := Bd.bytes
  have hml : c.maxLocals = 2 := hml0
  have hown : s.vm.findClass "com/example/grantline/grantline/GlobIsLiteralPinLaw" = some m.cls := findClass_of_methodNamed Bd.named
  have hnm := (name_of_methodNamed Bd.named Bd.method).1
  have X0 : Stand p l e (own_R 0 0 0 0) s m #[(.int va)] below meth c s₁ [] 0 0 := Stand.of_body Bd
  have e0 : s₁.heap = h0 := by rw [← hh, Bd.state]; rfl
  have N0 := Fr.nil n0
  refine go_of (A := s₁.setTop (entryFrame m #[(.int va)] 2)) (B := s₁.setTop (mkF m 0 #[.val (.int va), .unset] [])) (fun _ kk' => castTop (ef_gch m va) kk') ?_
  refine go_of (B := (s₁.setTop (mkF m 5 #[.val (.int va), .val (.int (va &&& (3 : Int32)))] [(.int (va &&& (3 : Int32)))]))) (fun _ kk => XS.iloadN X0.here hx rfl (hb hby d1_0) rfl (XS.iconst X0.here hx rfl (hb hby d1_1) (XS.iand X0.here hx rfl (hb hby d1_2) rfl (XS.istoreN X0.here hx rfl (hb hby d1_3) rfl rfl (XS.iloadN X0.here hx rfl (hb hby d1_4) rfl kk))))) ?_
  by_cases hcc1 : (va &&& (3 : Int32)) = (0 : Int32)
  · refine go_of (B := (s₁.setTop (mkF m 10 #[.val (.int va), .val (.int (va &&& (3 : Int32)))] [(.int (42 : Int32))]))) (fun _ kk => XS.ifNo X0.here hx rfl (hb hby d1_5) rfl ((if0 _ _).trans (teq hcc1).2) (XS.bipush X0.here hx rfl (hb hby d1_8) kk)) ?_
    refine go_end X0 (v := some (.int (nar .char (42 : Int32)))) (fun h => by rw [Bd.returns] at h; cases h) Bd.notSynchronized (by decide) (by decide) (Q := (Q_gch Z va h0 n0)) ?_ (fun fs hr => retN X0 hx (t := .char) Bd.returns (by simp) (hb hby d1_10) hr)
    unfold Q_gch
    try rw [e0]
    refine ⟨?_, N0, rfl⟩
    simp only [own_gch, hcc1, ↓reduceIte]
    first | rfl | rw [own_narc16 (own_hir va)]
  · refine go_of (B := (s₁.setTop (mkF m 13 #[.val (.int va), .val (.int (va &&& (3 : Int32)))] [(.int (1 : Int32)), (.int (va &&& (3 : Int32)))]))) (fun _ kk => XS.ifYes X0.here hx rfl (pc0 := 5) (pc' := 11) rfl (hb hby d1_5) rfl ((if0 _ _).trans (feq hcc1).2) (by decide) (by decide) (XS.iloadN X0.here hx rfl (hb hby d1_11) rfl (XS.iconst X0.here hx rfl (hb hby d1_12) kk))) ?_
    by_cases hcc2 : (va &&& (3 : Int32)) = (1 : Int32)
    · refine go_of (B := (s₁.setTop (mkF m 18 #[.val (.int va), .val (.int (va &&& (3 : Int32)))] [(.int (63 : Int32))]))) (fun _ kk => XS.icmpNo X0.here hx rfl (hb hby d1_13) rfl (teq hcc2).2 (XS.bipush X0.here hx rfl (hb hby d1_16) kk)) ?_
      refine go_end X0 (v := some (.int (nar .char (63 : Int32)))) (fun h => by rw [Bd.returns] at h; cases h) Bd.notSynchronized (by decide) (by decide) (Q := (Q_gch Z va h0 n0)) ?_ (fun fs hr => retN X0 hx (t := .char) Bd.returns (by simp) (hb hby d1_18) hr)
      unfold Q_gch
      try rw [e0]
      refine ⟨?_, N0, rfl⟩
      simp only [own_gch, hcc1, hcc2, ↓reduceIte]
      first | rfl | rw [own_narc16 (own_hir va)]
    · refine go_of (B := (s₁.setTop (mkF m 25 #[.val (.int va), .val (.int (va &&& (3 : Int32)))] [(.int (((va.toUInt32 >>> ((2 : Int32) &&& 31).toUInt32).toInt32) &&& (65535 : Int32)))]))) (fun _ kk => XS.icmpYes X0.here hx rfl (pc0 := 13) (pc' := 19) rfl (hb hby d1_13) rfl (feq hcc2).2 (by decide) (by decide) (XS.iloadN X0.here hx rfl (hb hby d1_19) rfl (XS.iconst X0.here hx rfl (hb hby d1_20) (XS.iushr X0.here hx rfl (hb hby d1_21) rfl (X0.ldcInt hx hown (mvT hZ (wd 5 rfl)) (g := (mkF m 22 #[.val (.int va), .val (.int (va &&& (3 : Int32)))] [(.int ((va.toUInt32 >>> ((2 : Int32) &&& 31).toUInt32).toInt32))])) rfl (hb hby d1_22) _ (XS.iand X0.here hx rfl (hb hby d1_24) rfl kk)))))) ?_
      refine go_of (B := (s₁.setTop (mkF m 26 #[.val (.int va), .val (.int (va &&& (3 : Int32)))] [(.int ((((va.toUInt32 >>> ((2 : Int32) &&& 31).toUInt32).toInt32) &&& (65535 : Int32)).toUInt32.toUInt16.toUInt32.toInt32))]))) (fun _ kk => XS.i2c X0.here hx rfl (hb hby d1_25) rfl kk) ?_
      refine go_end X0 (v := some (.int (nar .char ((((va.toUInt32 >>> ((2 : Int32) &&& 31).toUInt32).toInt32) &&& (65535 : Int32)).toUInt32.toUInt16.toUInt32.toInt32)))) (fun h => by rw [Bd.returns] at h; cases h) Bd.notSynchronized (by decide) (by decide) (Q := (Q_gch Z va h0 n0)) ?_ (fun fs hr => retN X0 hx (t := .char) Bd.returns (by simp) (hb hby d1_26) hr)
      unfold Q_gch
      try rw [e0]
      refine ⟨?_, N0, rfl⟩
      simp only [own_gch, hcc1, hcc2, ↓reduceIte]
      first | rfl | rw [own_narc16 (own_hir va)]
theorem d15_0 : decode method_3_code 0 = .ok (.iload_n 0, 1) := by decide +kernel
theorem d15_1 : decode method_3_code 1 = .ok (.bipush 42, 2) := by decide +kernel
theorem d15_3 : decode method_3_code 3 = .ok (.if_icmp .eq 9, 3) := by decide +kernel
theorem d15_12 : decode method_3_code 12 = .ok (.iconst 1, 1) := by decide +kernel
theorem d15_13 : decode method_3_code 13 = .ok (.goto 4, 3) := by decide +kernel
theorem d15_17 : decode method_3_code 17 = .ok (.ireturn, 1) := by decide +kernel
def Q_wld (Z : State) (w : Int32) (h0 : Heap) (n0 : Nat) (v : Option Value) (h : Heap) (L : List Loc) : Prop := v = some (.int (own_wl w)) ∧ Fr n0 L ∧ h = h0
theorem d15_6 : decode method_3_code 6 = .ok (.iload_n 0, 1) := by decide +kernel
theorem d15_7 : decode method_3_code 7 = .ok (.bipush 63, 2) := by decide +kernel
theorem d15_9 : decode method_3_code 9 = .ok (.if_icmp .ne 7, 3) := by decide +kernel
theorem d15_16 : decode method_3_code 16 = .ok (.iconst 0, 1) := by decide +kernel
theorem ef_wld (m : MethodId) (w : Int32)  : entryFrame m #[(.int w)] 1 = mkF m 0 #[.val (.int w)] [] := by first | (simp [entryFrame, mkF, argsToLocals, Value.category]; done) | rfl
theorem wld (l : Launch) (Z : State) (a0 : Array Value) (hw : TW a0 Z) (ws : List Cond) (w : Int32) (h0 : Heap) (n0 : Nat) (Z0 : n0 ≤ h0.size)  :
    own_MF l Z MN2 method_3_code 1 (some .boolean) ws (own_R 0 0 0 0) #[(.int w)] h0 (Q_wld Z w h0 n0) := by
  have wd := @own_wd _ _ hw
  refine MetFree.of_bodySF (plainFor_of_name pn_com_example_grantline_grantline_GlobIsLiteralPinLaw) hisR ?_
  intro p e s m args below meth c s₁ Bd hml0 hP hK
  obtain ⟨rfl, hZ, hh⟩ := hP
  have hx := Bd.exec
  have hby := Bd.bytes
  have hml : c.maxLocals = 1 := hml0
  have hown : s.vm.findClass "com/example/grantline/grantline/GlobIsLiteralPinLaw" = some m.cls := findClass_of_methodNamed Bd.named
  have hnm := (name_of_methodNamed Bd.named Bd.method).1
  have X0 : Stand p l e (own_R 0 0 0 0) s m #[(.int w)] below meth c s₁ [] 0 0 := Stand.of_body Bd
  have e0 : s₁.heap = h0 := by rw [← hh, Bd.state]; rfl
  have N0 := Fr.nil n0
  refine go_of (A := s₁.setTop (entryFrame m #[(.int w)] 1)) (B := s₁.setTop (mkF m 0 #[.val (.int w)] [])) (fun _ kk' => castTop (ef_wld m w) kk') ?_
  refine go_of (B := (s₁.setTop (mkF m 3 #[.val (.int w)] [(.int (42 : Int32)), (.int w)]))) (fun _ kk => XS.iloadN X0.here hx rfl (hb hby d15_0) rfl (XS.bipush X0.here hx rfl (hb hby d15_1) kk)) ?_
  by_cases hcc1 : w = (42 : Int32)
  · refine go_of (B := (s₁.setTop (mkF m 17 #[.val (.int w)] [(.int (1 : Int32))]))) (fun _ kk => XS.icmpYes X0.here hx rfl (pc0 := 3) (pc' := 12) rfl (hb hby d15_3) rfl (teq hcc1).1 (by decide) (by decide) (XS.iconst X0.here hx rfl (hb hby d15_12) (XS.goto X0.here hx rfl (pc0 := 13) (pc' := 17) rfl (hb hby d15_13) (by decide) (by decide) kk))) ?_
    refine go_end X0 (v := some (.int (nar .boolean (1 : Int32)))) (fun h => by rw [Bd.returns] at h; cases h) Bd.notSynchronized (by decide) (by decide) (Q := (Q_wld Z w h0 n0)) ?_ (fun fs hr => retN X0 hx (t := .boolean) Bd.returns (by simp) (hb hby d15_17) hr)
    unfold Q_wld
    try rw [e0]
    refine ⟨?_, N0, rfl⟩
    simp [own_wl, nar, hcc1]
  · refine go_of (B := (s₁.setTop (mkF m 9 #[.val (.int w)] [(.int (63 : Int32)), (.int w)]))) (fun _ kk => XS.icmpNo X0.here hx rfl (hb hby d15_3) rfl (feq hcc1).1 (XS.iloadN X0.here hx rfl (hb hby d15_6) rfl (XS.bipush X0.here hx rfl (hb hby d15_7) kk))) ?_
    by_cases hcc2 : w = (63 : Int32)
    · refine go_of (B := (s₁.setTop (mkF m 17 #[.val (.int w)] [(.int (1 : Int32))]))) (fun _ kk => XS.icmpNo X0.here hx rfl (hb hby d15_9) rfl (teq hcc2).2 (XS.iconst X0.here hx rfl (hb hby d15_12) (XS.goto X0.here hx rfl (pc0 := 13) (pc' := 17) rfl (hb hby d15_13) (by decide) (by decide) kk))) ?_
      refine go_end X0 (v := some (.int (nar .boolean (1 : Int32)))) (fun h => by rw [Bd.returns] at h; cases h) Bd.notSynchronized (by decide) (by decide) (Q := (Q_wld Z w h0 n0)) ?_ (fun fs hr => retN X0 hx (t := .boolean) Bd.returns (by simp) (hb hby d15_17) hr)
      unfold Q_wld
      try rw [e0]
      refine ⟨?_, N0, rfl⟩
      simp [own_wl, nar, hcc1, hcc2]
    · refine go_of (B := (s₁.setTop (mkF m 17 #[.val (.int w)] [(.int (0 : Int32))]))) (fun _ kk => XS.icmpYes X0.here hx rfl (pc0 := 9) (pc' := 16) rfl (hb hby d15_9) rfl (feq hcc2).2 (by decide) (by decide) (XS.iconst X0.here hx rfl (hb hby d15_16) kk)) ?_
      refine go_end X0 (v := some (.int (nar .boolean (0 : Int32)))) (fun h => by rw [Bd.returns] at h; cases h) Bd.notSynchronized (by decide) (by decide) (Q := (Q_wld Z w h0 n0)) ?_ (fun fs hr => retN X0 hx (t := .boolean) Bd.returns (by simp) (hb hby d15_17) hr)
      unfold Q_wld
      try rw [e0]
      refine ⟨?_, N0, rfl⟩
      simp [own_wl, nar, hcc1, hcc2]
theorem d12_0 : decode jdk_43_method_4_code 0 = .ok (.iload_n 0, 1) := by decide +kernel
theorem d12_1 : decode jdk_43_method_4_code 1 = .ok (.ifCond .lt 14, 3) := by decide +kernel
theorem d12_4 : decode jdk_43_method_4_code 4 = .ok (.iload_n 0, 1) := by decide +kernel
theorem d12_5 : decode jdk_43_method_4_code 5 = .ok (.sipush 255, 3) := by decide +kernel
theorem d12_8 : decode jdk_43_method_4_code 8 = .ok (.if_icmp .gt 7, 3) := by decide +kernel
theorem d12_11 : decode jdk_43_method_4_code 11 = .ok (.iconst 1, 1) := by decide +kernel
theorem d12_12 : decode jdk_43_method_4_code 12 = .ok (.goto 4, 3) := by decide +kernel
theorem d12_16 : decode jdk_43_method_4_code 16 = .ok (.ireturn, 1) := by decide +kernel
def Q_cani (Z : State) (wc : Int32) (h0 : Heap) (n0 : Nat) (v : Option Value) (h : Heap) (L : List Loc) : Prop := v = some (.int 1) ∧ Fr n0 L ∧ h = h0
theorem pn_java_lang_StringLatin1 : plainName "java/lang/StringLatin1" = true := by first | (simp [plainName, overriddenIn]; done) | decide +kernel
theorem ef_cani (m : MethodId) (wc : Int32)  : entryFrame m #[(.int wc)] 1 = mkF m 0 #[.val (.int wc)] [] := by first | (simp [entryFrame, mkF, argsToLocals, Value.category]; done) | rfl
theorem cani (l : Launch) (Z : State) (a0 : Array Value) (hw : TW a0 Z) (ws : List Cond) (wc : Int32) (h0 : Heap) (n0 : Nat) (Z0 : n0 ≤ h0.size) (hwc : ¬ wc < 0 ∧ ¬ (255 : Int32) < wc) :
    own_MF l Z MN12 jdk_43_method_4_code 1 (some .boolean) ws (own_R 0 0 0 0) #[(.int wc)] h0 (Q_cani Z wc h0 n0) := by
  have wd := @own_wd _ _ hw
  refine MetFree.of_bodySF (plainFor_of_name pn_java_lang_StringLatin1) hisR ?_
  intro p e s m args below meth c s₁ Bd hml0 hP hK
  obtain ⟨rfl, hZ, hh⟩ := hP
  have hx := Bd.exec
  have hby := Bd.bytes
  have hml : c.maxLocals = 1 := hml0
  have hown : s.vm.findClass "java/lang/StringLatin1" = some m.cls := findClass_of_methodNamed Bd.named
  have hnm := (name_of_methodNamed Bd.named Bd.method).1
  have X0 : Stand p l e (own_R 0 0 0 0) s m #[(.int wc)] below meth c s₁ [] 0 0 := Stand.of_body Bd
  have e0 : s₁.heap = h0 := by rw [← hh, Bd.state]; rfl
  have N0 := Fr.nil n0
  refine go_of (A := s₁.setTop (entryFrame m #[(.int wc)] 1)) (B := s₁.setTop (mkF m 0 #[.val (.int wc)] [])) (fun _ kk' => castTop (ef_cani m wc) kk') ?_
  refine go_of (B := (s₁.setTop (mkF m 12 #[.val (.int wc)] [(.int (1 : Int32))]))) (fun _ kk => XS.iloadN X0.here hx rfl (hb hby d12_0) rfl (XS.ifNo X0.here hx rfl (hb hby d12_1) rfl ((if0 _ _).trans (flt hwc.1).1) (XS.iloadN X0.here hx rfl (hb hby d12_4) rfl (XS.sipush X0.here hx rfl (hb hby d12_5) (XS.icmpNo X0.here hx rfl (hb hby d12_8) rfl (flt hwc.2).2.2.1 (XS.iconst X0.here hx rfl (hb hby d12_11) kk)))))) ?_
  refine go_of (B := (s₁.setTop (mkF m 16 #[.val (.int wc)] [(.int (1 : Int32))]))) (fun _ kk => XS.goto X0.here hx rfl (pc0 := 12) (pc' := 16) rfl (hb hby d12_12) (by decide) (by decide) kk) ?_
  refine go_end X0 (v := some (.int (nar .boolean (1 : Int32)))) (fun h => by rw [Bd.returns] at h; cases h) Bd.notSynchronized (by decide) (by decide) (Q := (Q_cani Z wc h0 n0)) ?_ (fun fs hr => retN X0 hx (t := .boolean) Bd.returns (by simp) (hb hby d12_16) hr)
  unfold Q_cani
  try rw [e0]
  exact ⟨rfl, N0, rfl⟩
theorem d30_0 : decode jdk_41_method_12_code 0 = .ok (.iload_n 0, 1) := by decide +kernel
theorem d30_1 : decode jdk_41_method_12_code 1 = .ok (.ifCond .lt 13, 3) := by decide +kernel
theorem d30_4 : decode jdk_41_method_12_code 4 = .ok (.iload_n 0, 1) := by decide +kernel
theorem d30_5 : decode jdk_41_method_12_code 5 = .ok (.iload_n 1, 1) := by decide +kernel
theorem d30_6 : decode jdk_41_method_12_code 6 = .ok (.if_icmp .gt 8, 3) := by decide +kernel
theorem d30_9 : decode jdk_41_method_12_code 9 = .ok (.iload_n 1, 1) := by decide +kernel
theorem d30_10 : decode jdk_41_method_12_code 10 = .ok (.iload_n 2, 1) := by decide +kernel
theorem d30_11 : decode jdk_41_method_12_code 11 = .ok (.if_icmp .le 11, 3) := by decide +kernel
theorem d30_22 : decode jdk_41_method_12_code 22 = .ok (.iload_n 0, 1) := by decide +kernel
theorem d30_23 : decode jdk_41_method_12_code 23 = .ok (.ireturn, 1) := by decide +kernel
def Q_cfti (Z : State) (nn : Int32) (gF : Value) (h0 : Heap) (n0 : Nat) (v : Option Value) (h : Heap) (L : List Loc) : Prop := v = some (.int 0) ∧ Fr n0 L ∧ h = h0
theorem pn_jdk_internal_util_Preconditions : plainName "jdk/internal/util/Preconditions" = true := by first | (simp [plainName, overriddenIn]; done) | decide +kernel
theorem ef_cfti (m : MethodId) (nn : Int32) (gF : Value) (rgF : gF.isRef = true) : entryFrame m #[(.int (0 : Int32)), (.int nn), (.int nn), gF] 4 = mkF m 0 #[.val (.int (0 : Int32)), .val (.int nn), .val (.int nn), .val gF] [] := by rcases ref_cases rgF with rfl | ⟨_, rfl⟩ <;> first | (simp [entryFrame, mkF, argsToLocals, Value.category]; done) | rfl
theorem cfti (l : Launch) (Z : State) (a0 : Array Value) (hw : TW a0 Z) (ws : List Cond) (nn : Int32) (gF : Value) (h0 : Heap) (n0 : Nat) (Z0 : n0 ≤ h0.size) (rgF : gF.isRef = true) (hp : ¬ nn < (0 : Int32)) :
    own_MF l Z (⟨"jdk/internal/util/Preconditions", "checkFromToIndex", "(IIILjava/util/function/BiFunction;)I"⟩ : MethodName) jdk_41_method_12_code 4 (some .int) ws (own_R 0 0 0 0) #[(.int (0 : Int32)), (.int nn), (.int nn), gF] h0 (Q_cfti Z nn gF h0 n0) := by
  have wd := @own_wd _ _ hw
  refine MetFree.of_bodySF (plainFor_of_name pn_jdk_internal_util_Preconditions) hisR ?_
  intro p e s m args below meth c s₁ Bd hml0 hP hK
  obtain ⟨rfl, hZ, hh⟩ := hP
  have hx := Bd.exec
  have hby := Bd.bytes
  have hml : c.maxLocals = 4 := hml0
  have hown : s.vm.findClass "jdk/internal/util/Preconditions" = some m.cls := findClass_of_methodNamed Bd.named
  have hnm := (name_of_methodNamed Bd.named Bd.method).1
  have X0 : Stand p l e (own_R 0 0 0 0) s m #[(.int (0 : Int32)), (.int nn), (.int nn), gF] below meth c s₁ [] 0 0 := Stand.of_body Bd
  have e0 : s₁.heap = h0 := by rw [← hh, Bd.state]; rfl
  have N0 := Fr.nil n0
  refine go_of (A := s₁.setTop (entryFrame m #[(.int (0 : Int32)), (.int nn), (.int nn), gF] 4)) (B := s₁.setTop (mkF m 0 #[.val (.int (0 : Int32)), .val (.int nn), .val (.int nn), .val gF] [])) (fun _ kk' => castTop (ef_cfti m nn gF rgF) kk') ?_
  refine go_of (B := (s₁.setTop (mkF m 10 #[.val (.int (0 : Int32)), .val (.int nn), .val (.int nn), .val gF] [(.int nn)]))) (fun _ kk => XS.iloadN X0.here hx rfl (hb hby d30_0) rfl (XS.ifNo X0.here hx rfl (hb hby d30_1) rfl ((if0 _ _).trans (flt (by decide : ¬ ((0 : Int32) < (0 : Int32)))).1) (XS.iloadN X0.here hx rfl (hb hby d30_4) rfl (XS.iloadN X0.here hx rfl (hb hby d30_5) rfl (XS.icmpNo X0.here hx rfl (hb hby d30_6) rfl (flt hp).2.2.1 (XS.iloadN X0.here hx rfl (hb hby d30_9) rfl kk)))))) ?_
  refine go_of (B := (s₁.setTop (mkF m 23 #[.val (.int (0 : Int32)), .val (.int nn), .val (.int nn), .val gF] [(.int (0 : Int32))]))) (fun _ kk => XS.iloadN X0.here hx rfl (hb hby d30_10) rfl (XS.icmpYes X0.here hx rfl (pc0 := 11) (pc' := 22) rfl (hb hby d30_11) rfl (flt Int32.lt_irrefl).2.2.2 (by decide) (by decide) (XS.iloadN X0.here hx rfl (hb hby d30_22) rfl kk))) ?_
  refine go_end X0 (v := some (.int (0 : Int32))) (fun h => by rw [Bd.returns] at h; cases h) Bd.notSynchronized (by decide) (by decide) (Q := (Q_cfti Z nn gF h0 n0)) ?_ (fun fs hr => own_retI X0 hx Bd.returns (hb hby d30_23) hr)
  unfold Q_cfti
  try rw [e0]
  exact ⟨rfl, N0, rfl⟩
theorem d29_0 : decode jdk_42_method_158_code 0 = .ok (.iload_n 0, 1) := by decide +kernel
theorem d29_1 : decode jdk_42_method_158_code 1 = .ok (.iload_n 1, 1) := by decide +kernel
theorem d29_2 : decode jdk_42_method_158_code 2 = .ok (.iload_n 2, 1) := by decide +kernel
theorem d29_3 : decode jdk_42_method_158_code 3 = .ok (.getstatic 1053, 3) := by decide +kernel
theorem d29_6 : decode jdk_42_method_158_code 6 = .ok (.invokestatic 1062, 3) := by decide +kernel
theorem pd__IIILjava_util_function_BiFunction__I : parseMethodDescriptor "(IIILjava/util/function/BiFunction;)I" = some ⟨[.int, .int, .int, (.object "java/util/function/BiFunction")], some .int⟩ := by decide +kernel
theorem d29_9 : decode jdk_42_method_158_code 9 = .ok (.pop, 1) := by decide +kernel
theorem d29_10 : decode jdk_42_method_158_code 10 = .ok (.return_, 1) := by decide +kernel
def Q_cbbe (Z : State) (nn : Int32) (gF : Value) (h0 : Heap) (n0 : Nat) (v : Option Value) (h : Heap) (L : List Loc) : Prop := v = none ∧ Fr n0 L ∧ h = h0
theorem pn_java_lang_String : plainName "java/lang/String" = true := by first | (simp [plainName, overriddenIn]; done) | decide +kernel
theorem ef_cbbe (m : MethodId) (nn : Int32)  : entryFrame m #[(.int (0 : Int32)), (.int nn), (.int nn)] 3 = mkF m 0 #[.val (.int (0 : Int32)), .val (.int nn), .val (.int nn)] [] := by first | (simp [entryFrame, mkF, argsToLocals, Value.category]; done) | rfl
theorem cbbe (l : Launch) (Z : State) (a0 : Array Value) (hw : TW a0 Z) (ws : List Cond) (nn : Int32) (gF : Value) (h0 : Heap) (n0 : Nat) (Z0 : n0 ≤ h0.size) (O : Old Z n0 h0) (SF : Sta Z Z.heap "jdk/internal/util/Preconditions" "SIOOBE_FORMATTER" "Ljava/util/function/BiFunction;" gF) (rgF : gF.isRef = true) (hp : ¬ nn < (0 : Int32)) :
    own_MF l Z (⟨"java/lang/String", "checkBoundsBeginEnd", "(III)V"⟩ : MethodName) jdk_42_method_158_code 3 none ws (own_R 1 0 0 15) #[(.int (0 : Int32)), (.int nn), (.int nn)] h0 (Q_cbbe Z nn gF h0 n0) := by
  have wd := @own_wd _ _ hw
  refine MetFree.of_bodySF (plainFor_of_name pn_java_lang_String) hisR ?_
  intro p e s m args below meth c s₁ Bd hml0 hP hK
  obtain ⟨rfl, hZ, hh⟩ := hP
  have hx := Bd.exec
  have hby := Bd.bytes
  have hml : c.maxLocals = 3 := hml0
  have hown : s.vm.findClass "java/lang/String" = some m.cls := findClass_of_methodNamed Bd.named
  have hnm := (name_of_methodNamed Bd.named Bd.method).1
  have X0 : Stand p l e (own_R 1 0 0 15) s m #[(.int (0 : Int32)), (.int nn), (.int nn)] below meth c s₁ [] 0 0 := Stand.of_body Bd
  have e0 : s₁.heap = h0 := by rw [← hh, Bd.state]; rfl
  have N0 := Fr.nil n0
  refine go_of (A := s₁.setTop (entryFrame m #[(.int (0 : Int32)), (.int nn), (.int nn)] 3)) (B := s₁.setTop (mkF m 0 #[.val (.int (0 : Int32)), .val (.int nn), .val (.int nn)] [])) (fun _ kk' => castTop (ef_cbbe m nn) kk') ?_
  refine go_of (B := (s₁.setTop (mkF m 3 #[.val (.int (0 : Int32)), .val (.int nn), .val (.int nn)] [(.int nn), (.int nn), (.int (0 : Int32))]))) (fun _ kk => XS.iloadN X0.here hx rfl (hb hby d29_0) rfl (XS.iloadN X0.here hx rfl (hb hby d29_1) rfl (XS.iloadN X0.here hx rfl (hb hby d29_2) rfl kk))) ?_
  obtain ⟨T1, X1, e1, st1⟩ := getS2 X0 hx hZ hown (host := "") (Or.inl (wd 125 rfl)) Via.refl e0 (SF.ext O.2) (g := (mkF m 3 #[.val (.int (0 : Int32)), .val (.int nn), .val (.int nn)] [(.int nn), (.int nn), (.int (0 : Int32))])) rfl (hb hby d29_3)
  refine go_of (B := (T1.setTop (mkF m 6 #[.val (.int (0 : Int32)), .val (.int nn), .val (.int nn)] [gF, (.int nn), (.int nn), (.int (0 : Int32))]))) (st1) ?_
  obtain ⟨_, _, ⟨T2, L2, k2, n2⟩, -, X2, ⟨Lc2, hQ2, l2, y2, z2⟩, st2⟩ := Jvm.LawKit.callS X1 hx (y := (⟨"jdk/internal/util/Preconditions", "checkFromToIndex", "(IIILjava/util/function/BiFunction;)I"⟩ : MethodName)) hown (mvT hZ (wd 127 rfl)) (mvT hZ (wd 128 rfl)) (mvT hZ (wd 126 rfl)) (mvT hZ (wd 129 rfl)) (by decide) (backOf (W := 0) (cfti l Z a0 hw [] nn gF h0 n0 (by omega) rgF hp) hZ (wd 129 rfl) (wd 126 rfl) (by decide) (by decide)) (g := (mkF m 6 #[.val (.int (0 : Int32)), .val (.int nn), .val (.int nn)] [gF, (.int nn), (.int nn), (.int (0 : Int32))])) rfl (by rw [hml]; rfl) (argsL := [(.int (0 : Int32)), (.int nn), (.int nn), gF]) (rest := []) (lenOf pd__IIILjava_util_function_BiFunction__I rfl) rfl (Nat.le_of_eq rfl) (hb hby d29_6) (fun _ _ => ⟨rfl, e1, (by decide : 0 + 0 ≤ _), (by decide : 0 + 0 ≤ _)⟩)
  dsimp only [Pt.U, Pt.locs, Pt.cells, Pt.slots] at X2 l2 y2 z2 st2 hQ2
  subst l2 y2 z2
  obtain ⟨rfl, N2q, e2⟩ := hQ2
  have N2 := Fr.app N0 N2q
  refine go_of (B := (T2.setTop (mkF m 9 #[.val (.int (0 : Int32)), .val (.int nn), .val (.int nn)] [(.int (0 : Int32))]))) (st2) ?_
  refine go_of (B := (T2.setTop (mkF m 10 #[.val (.int (0 : Int32)), .val (.int nn), .val (.int nn)] []))) (fun _ kk => XS.pop X2.here hx rfl (hb hby d29_9) rfl rfl kk) ?_
  refine go_end X2 (v := none) (fun _ => rfl) Bd.notSynchronized (by decide) (by decide) (Q := (Q_cbbe Z nn gF h0 n0)) ?_ (fun fs hr => X2.returnOut hx Bd.returns (hb hby d29_10) hr)
  unfold Q_cbbe
  try rw [e2]
  exact ⟨rfl, N2, rfl⟩
theorem d28_0 : decode jdk_52_method_6_code 0 = .ok (.aload_n 0, 1) := by decide +kernel
theorem d28_1 : decode jdk_52_method_6_code 1 = .ok (.arraylength, 1) := by decide +kernel
theorem d28_2 : decode jdk_52_method_6_code 2 = .ok (.iconst 1, 1) := by decide +kernel
theorem d28_3 : decode jdk_52_method_6_code 3 = .ok (.ishr, 1) := by decide +kernel
theorem d28_4 : decode jdk_52_method_6_code 4 = .ok (.ireturn, 1) := by decide +kernel
def Q_u_ul (Z : State) (t : Addr) (nn : Int32) (mm : Int32) (k : ClassId) (vs : List Value) (h0 : Heap) (n0 : Nat) (v : Option Value) (h : Heap) (L : List Loc) : Prop := v = some (.int nn) ∧ Fr n0 L ∧ h = h0
theorem pn_java_lang_StringUTF16 : plainName "java/lang/StringUTF16" = true := by first | (simp [plainName, overriddenIn]; done) | decide +kernel
theorem ef_u_ul (m : MethodId) (t : Addr)  : entryFrame m #[(.ref t)] 1 = mkF m 0 #[.val (.ref t)] [] := by first | (simp [entryFrame, mkF, argsToLocals, Value.category]; done) | rfl
theorem u_ul (l : Launch) (Z : State) (a0 : Array Value) (hw : TW a0 Z) (ws : List Cond) (t : Addr) (nn : Int32) (mm : Int32) (k : ClassId) (vs : List Value) (h0 : Heap) (n0 : Nat) (Z0 : n0 ≤ h0.size) (V : Arv Z h0 t k .byte mm vs (.int 0)) (hsh : mm >>> ((1 : Int32) &&& 31) = nn) :
    own_MF l Z (⟨"java/lang/StringUTF16", "length", "([B)I"⟩ : MethodName) jdk_52_method_6_code 1 (some .int) ws (own_R 0 0 0 0) #[(.ref t)] h0 (Q_u_ul Z t nn mm k vs h0 n0) := by
  have wd := @own_wd _ _ hw
  refine MetFree.of_bodySF (plainFor_of_name pn_java_lang_StringUTF16) hisR ?_
  intro p e s m args below meth c s₁ Bd hml0 hP hK
  obtain ⟨rfl, hZ, hh⟩ := hP
  have hx := Bd.exec
  have hby := Bd.bytes
  have hml : c.maxLocals = 1 := hml0
  have hown : s.vm.findClass "java/lang/StringUTF16" = some m.cls := findClass_of_methodNamed Bd.named
  have hnm := (name_of_methodNamed Bd.named Bd.method).1
  have X0 : Stand p l e (own_R 0 0 0 0) s m #[(.ref t)] below meth c s₁ [] 0 0 := Stand.of_body Bd
  have e0 : s₁.heap = h0 := by rw [← hh, Bd.state]; rfl
  have N0 := Fr.nil n0
  refine go_of (A := s₁.setTop (entryFrame m #[(.ref t)] 1)) (B := s₁.setTop (mkF m 0 #[.val (.ref t)] [])) (fun _ kk' => castTop (ef_u_ul m t) kk') ?_
  refine go_of (B := (s₁.setTop (mkF m 1 #[.val (.ref t)] [(.ref t)]))) (fun _ kk => XS.aloadN X0.here hx rfl (hb hby d28_0) rfl rfl kk) ?_
  obtain ⟨cl1, Ar1, q1, Sz1, Nn1, Hh1, G1⟩ := id (V)
  have ln1 := len_of Sz1 Nn1
  refine go_of (B := (s₁.setTop (mkF m 2 #[.val (.ref t)] [(.int mm)]))) (fun _ kk => X0.arraylength hx (by rw [e0]; exact Ar1.1) (State.isArrayOf_alike hZ.alike Ar1.2.1) (g := (mkF m 1 #[.val (.ref t)] [(.ref t)])) rfl rfl (hb hby d28_1) _ (by rw [ln1]; exact kk)) ?_
  refine go_of (B := (s₁.setTop (mkF m 4 #[.val (.ref t)] [(.int (mm >>> ((1 : Int32) &&& 31)))]))) (fun _ kk => XS.iconst X0.here hx rfl (hb hby d28_2) (XS.ishr X0.here hx rfl (hb hby d28_3) rfl kk)) ?_
  refine go_end X0 (v := some (.int (mm >>> ((1 : Int32) &&& 31)))) (fun h => by rw [Bd.returns] at h; cases h) Bd.notSynchronized (by decide) (by decide) (Q := (Q_u_ul Z t nn mm k vs h0 n0)) ?_ (fun fs hr => own_retI X0 hx Bd.returns (hb hby d28_4) hr)
  unfold Q_u_ul
  try rw [e0]
  refine ⟨?_, N0, rfl⟩
  rw [hsh]
theorem d27_0 : decode jdk_52_method_93_code 0 = .ok (.iload_n 0, 1) := by decide +kernel
theorem d27_1 : decode jdk_52_method_93_code 1 = .ok (.iload_n 1, 1) := by decide +kernel
theorem d27_2 : decode jdk_52_method_93_code 2 = .ok (.aload_n 2, 1) := by decide +kernel
theorem d27_3 : decode jdk_52_method_93_code 3 = .ok (.invokestatic 48, 3) := by decide +kernel
theorem pd___B_I : parseMethodDescriptor "([B)I" = some ⟨[(.array .byte)], some .int⟩ := by decide +kernel
theorem d27_6 : decode jdk_52_method_93_code 6 = .ok (.invokestatic 241, 3) := by decide +kernel
theorem pd__III_V : parseMethodDescriptor "(III)V" = some ⟨[.int, .int, .int], none⟩ := by decide +kernel
theorem d27_9 : decode jdk_52_method_93_code 9 = .ok (.return_, 1) := by decide +kernel
def Q_ucbb (Z : State) (nn : Int32) (t : Addr) (mm : Int32) (k : ClassId) (vs : List Value) (gF : Value) (h0 : Heap) (n0 : Nat) (v : Option Value) (h : Heap) (L : List Loc) : Prop := v = none ∧ Fr n0 L ∧ h = h0
theorem ef_ucbb (m : MethodId) (nn : Int32) (t : Addr)  : entryFrame m #[(.int (0 : Int32)), (.int nn), (.ref t)] 3 = mkF m 0 #[.val (.int (0 : Int32)), .val (.int nn), .val (.ref t)] [] := by first | (simp [entryFrame, mkF, argsToLocals, Value.category]; done) | rfl
theorem ucbb (l : Launch) (Z : State) (a0 : Array Value) (hw : TW a0 Z) (ws : List Cond) (nn : Int32) (t : Addr) (mm : Int32) (k : ClassId) (vs : List Value) (gF : Value) (h0 : Heap) (n0 : Nat) (Z0 : n0 ≤ h0.size) (O : Old Z n0 h0) (SF : Sta Z Z.heap "jdk/internal/util/Preconditions" "SIOOBE_FORMATTER" "Ljava/util/function/BiFunction;" gF) (rgF : gF.isRef = true) (V : Arv Z h0 t k .byte mm vs (.int 0)) (hsh : mm >>> ((1 : Int32) &&& 31) = nn) (hp : ¬ nn < (0 : Int32)) :
    own_MF l Z MN15 jdk_52_method_93_code 3 none ws (own_R 2 0 0 29) #[(.int (0 : Int32)), (.int nn), (.ref t)] h0 (Q_ucbb Z nn t mm k vs gF h0 n0) := by
  have wd := @own_wd _ _ hw
  refine MetFree.of_bodySF (plainFor_of_name pn_java_lang_StringUTF16) hisR ?_
  intro p e s m args below meth c s₁ Bd hml0 hP hK
  obtain ⟨rfl, hZ, hh⟩ := hP
  have hx := Bd.exec
  have hby := Bd.bytes
  have hml : c.maxLocals = 3 := hml0
  have hown : s.vm.findClass "java/lang/StringUTF16" = some m.cls := findClass_of_methodNamed Bd.named
  have hnm := (name_of_methodNamed Bd.named Bd.method).1
  have X0 : Stand p l e (own_R 2 0 0 29) s m #[(.int (0 : Int32)), (.int nn), (.ref t)] below meth c s₁ [] 0 0 := Stand.of_body Bd
  have e0 : s₁.heap = h0 := by rw [← hh, Bd.state]; rfl
  have N0 := Fr.nil n0
  refine go_of (A := s₁.setTop (entryFrame m #[(.int (0 : Int32)), (.int nn), (.ref t)] 3)) (B := s₁.setTop (mkF m 0 #[.val (.int (0 : Int32)), .val (.int nn), .val (.ref t)] [])) (fun _ kk' => castTop (ef_ucbb m nn t) kk') ?_
  refine go_of (B := (s₁.setTop (mkF m 3 #[.val (.int (0 : Int32)), .val (.int nn), .val (.ref t)] [(.ref t), (.int nn), (.int (0 : Int32))]))) (fun _ kk => XS.iloadN X0.here hx rfl (hb hby d27_0) rfl (XS.iloadN X0.here hx rfl (hb hby d27_1) rfl (XS.aloadN X0.here hx rfl (hb hby d27_2) rfl rfl kk))) ?_
  obtain ⟨_, _, ⟨T1, L1, k1, n1⟩, -, X1, ⟨Lc1, hQ1, l1, y1, z1⟩, st1⟩ := Jvm.LawKit.callS X0 hx (y := (⟨"java/lang/StringUTF16", "length", "([B)I"⟩ : MethodName)) hown (mvT hZ (wd 119 rfl)) (mvT hZ (wd 120 rfl)) (mvT hZ (wd 77 rfl)) (mvT hZ (wd 121 rfl)) (by decide) (backOf (W := 2) (u_ul l Z a0 hw [] t nn mm k vs h0 n0 (by omega) V hsh) hZ (wd 121 rfl) (wd 77 rfl) (by decide) (by decide)) (g := (mkF m 3 #[.val (.int (0 : Int32)), .val (.int nn), .val (.ref t)] [(.ref t), (.int nn), (.int (0 : Int32))])) rfl (by rw [hml]; rfl) (argsL := [(.ref t)]) (rest := [(.int nn), (.int (0 : Int32))]) (lenOf pd___B_I rfl) rfl (Nat.le_of_eq rfl) (hb hby d27_3) (fun _ _ => ⟨rfl, e0, (by decide : 0 + 0 ≤ _), (by decide : 0 + 0 ≤ _)⟩)
  dsimp only [Pt.U, Pt.locs, Pt.cells, Pt.slots] at X1 l1 y1 z1 st1 hQ1
  subst l1 y1 z1
  obtain ⟨rfl, N1q, e1⟩ := hQ1
  have N1 := Fr.app N0 N1q
  refine go_of (B := (T1.setTop (mkF m 6 #[.val (.int (0 : Int32)), .val (.int nn), .val (.ref t)] [(.int nn), (.int nn), (.int (0 : Int32))]))) (st1) ?_
  obtain ⟨_, _, ⟨T2, L2, k2, n2⟩, -, X2, ⟨Lc2, hQ2, l2, y2, z2⟩, st2⟩ := Jvm.LawKit.callS X1 hx (y := (⟨"java/lang/String", "checkBoundsBeginEnd", "(III)V"⟩ : MethodName)) hown (mvT hZ (wd 122 rfl)) (mvT hZ (wd 123 rfl)) (mvT hZ (wd 9 rfl)) (mvT hZ (wd 124 rfl)) (by decide) (backOf (W := 0) (cbbe l Z a0 hw [] nn gF h0 n0 (by omega) O SF rgF hp) hZ (wd 124 rfl) (wd 9 rfl) (by decide) (by decide)) (g := (mkF m 6 #[.val (.int (0 : Int32)), .val (.int nn), .val (.ref t)] [(.int nn), (.int nn), (.int (0 : Int32))])) rfl (by rw [hml]; rfl) (argsL := [(.int (0 : Int32)), (.int nn), (.int nn)]) (rest := []) (lenOf pd__III_V rfl) rfl (Nat.le_of_eq rfl) (hb hby d27_6) (fun _ _ => ⟨rfl, e1, (by decide : 0 + 0 ≤ _), (by decide : 0 + 0 ≤ _)⟩)
  dsimp only [Pt.U, Pt.locs, Pt.cells, Pt.slots] at X2 l2 y2 z2 st2 hQ2
  subst l2 y2 z2
  obtain ⟨rfl, N2q, e2⟩ := hQ2
  have N2 := Fr.app N1 N2q
  refine go_of (B := (T2.setTop (mkF m 9 #[.val (.int (0 : Int32)), .val (.int nn), .val (.ref t)] []))) (st2) ?_
  refine go_end X2 (v := none) (fun _ => rfl) Bd.notSynchronized (by decide) (by decide) (Q := (Q_ucbb Z nn t mm k vs gF h0 n0)) ?_ (fun fs hr => X2.returnOut hx Bd.returns (hb hby d27_9) hr)
  unfold Q_ucbb
  try rw [e2]
  exact ⟨rfl, N2, rfl⟩
def own_max (x y : Int32) : Int32 := if x < y then y else x
theorem d13_0 : decode jdk_29_method_65_code 0 = .ok (.iload_n 0, 1) := by decide +kernel
theorem d13_1 : decode jdk_29_method_65_code 1 = .ok (.iload_n 1, 1) := by decide +kernel
theorem d13_2 : decode jdk_29_method_65_code 2 = .ok (.if_icmp .lt 7, 3) := by decide +kernel
theorem d13_9 : decode jdk_29_method_65_code 9 = .ok (.iload_n 1, 1) := by decide +kernel
theorem d13_10 : decode jdk_29_method_65_code 10 = .ok (.ireturn, 1) := by decide +kernel
def Q_v_max (Z : State) (x : Int32) (y : Int32) (r : Int32) (h0 : Heap) (n0 : Nat) (v : Option Value) (h : Heap) (L : List Loc) : Prop := v = some (.int r) ∧ Fr n0 L ∧ h = h0
theorem d13_5 : decode jdk_29_method_65_code 5 = .ok (.iload_n 0, 1) := by decide +kernel
theorem d13_6 : decode jdk_29_method_65_code 6 = .ok (.goto 4, 3) := by decide +kernel
theorem ef_v_max (m : MethodId) (x : Int32) (y : Int32)  : entryFrame m #[(.int x), (.int y)] 2 = mkF m 0 #[.val (.int x), .val (.int y)] [] := by first | (simp [entryFrame, mkF, argsToLocals, Value.category]; done) | rfl
theorem v_max (l : Launch) (Z : State) (a0 : Array Value) (hw : TW a0 Z) (ws : List Cond) (x : Int32) (y : Int32) (r : Int32) (h0 : Heap) (n0 : Nat) (Z0 : n0 ≤ h0.size) (hr : own_max x y = r) :
    own_MF l Z MN3 jdk_29_method_65_code 2 (some .int) ws (own_R 0 0 0 0) #[(.int x), (.int y)] h0 (Q_v_max Z x y r h0 n0) := by
  have wd := @own_wd _ _ hw
  refine MetFree.of_bodySF (Jvm.Free.JP.mathPlain rfl (by decide +kernel)) hisR ?_
  intro p e s m args below meth c s₁ Bd hml0 hP hK
  obtain ⟨rfl, hZ, hh⟩ := hP
  have hx := Bd.exec
  have hby := Bd.bytes
  have hml : c.maxLocals = 2 := hml0
  have hown : s.vm.findClass "java/lang/Math" = some m.cls := findClass_of_methodNamed Bd.named
  have hnm := (name_of_methodNamed Bd.named Bd.method).1
  have X0 : Stand p l e (own_R 0 0 0 0) s m #[(.int x), (.int y)] below meth c s₁ [] 0 0 := Stand.of_body Bd
  have e0 : s₁.heap = h0 := by rw [← hh, Bd.state]; rfl
  have N0 := Fr.nil n0
  refine go_of (A := s₁.setTop (entryFrame m #[(.int x), (.int y)] 2)) (B := s₁.setTop (mkF m 0 #[.val (.int x), .val (.int y)] [])) (fun _ kk' => castTop (ef_v_max m x y) kk') ?_
  refine go_of (B := (s₁.setTop (mkF m 2 #[.val (.int x), .val (.int y)] [(.int y), (.int x)]))) (fun _ kk => XS.iloadN X0.here hx rfl (hb hby d13_0) rfl (XS.iloadN X0.here hx rfl (hb hby d13_1) rfl kk)) ?_
  by_cases hcc1 : x < y
  · refine go_of (B := (s₁.setTop (mkF m 10 #[.val (.int x), .val (.int y)] [(.int y)]))) (fun _ kk => XS.icmpYes X0.here hx rfl (pc0 := 2) (pc' := 9) rfl (hb hby d13_2) rfl (tlt hcc1).1 (by decide) (by decide) (XS.iloadN X0.here hx rfl (hb hby d13_9) rfl kk)) ?_
    refine go_end X0 (v := some (.int y)) (fun h => by rw [Bd.returns] at h; cases h) Bd.notSynchronized (by decide) (by decide) (Q := (Q_v_max Z x y r h0 n0)) ?_ (fun fs hr => own_retI X0 hx Bd.returns (hb hby d13_10) hr)
    unfold Q_v_max
    try rw [e0]
    refine ⟨?_, N0, rfl⟩
    rw [← hr]; simp [own_max, hcc1]
  · refine go_of (B := (s₁.setTop (mkF m 10 #[.val (.int x), .val (.int y)] [(.int x)]))) (fun _ kk => XS.icmpNo X0.here hx rfl (hb hby d13_2) rfl (flt hcc1).1 (XS.iloadN X0.here hx rfl (hb hby d13_5) rfl (XS.goto X0.here hx rfl (pc0 := 6) (pc' := 10) rfl (hb hby d13_6) (by decide) (by decide) kk))) ?_
    refine go_end X0 (v := some (.int x)) (fun h => by rw [Bd.returns] at h; cases h) Bd.notSynchronized (by decide) (by decide) (Q := (Q_v_max Z x y r h0 n0)) ?_ (fun fs hr => own_retI X0 hx Bd.returns (hb hby d13_10) hr)
    unfold Q_v_max
    try rw [e0]
    refine ⟨?_, N0, rfl⟩
    rw [← hr]; simp [own_max, hcc1]
theorem d24_0 : decode jdk_52_method_5_code 0 = .ok (.getstatic 44, 3) := by decide +kernel
theorem d24_3 : decode jdk_52_method_5_code 3 = .ok (.ifCond .ne 25, 3) := by decide +kernel
theorem d24_28 : decode jdk_52_method_5_code 28 = .ok (.iload_n 1, 1) := by decide +kernel
theorem d24_29 : decode jdk_52_method_5_code 29 = .ok (.iconst 1, 1) := by decide +kernel
theorem d24_30 : decode jdk_52_method_5_code 30 = .ok (.ishl, 1) := by decide +kernel
theorem d24_31 : decode jdk_52_method_5_code 31 = .ok (.istore_n 1, 1) := by decide +kernel
theorem d24_32 : decode jdk_52_method_5_code 32 = .ok (.aload_n 0, 1) := by decide +kernel
theorem d24_33 : decode jdk_52_method_5_code 33 = .ok (.iload_n 1, 1) := by decide +kernel
theorem d24_34 : decode jdk_52_method_5_code 34 = .ok (.iinc 1 1, 3) := by decide +kernel
theorem d24_37 : decode jdk_52_method_5_code 37 = .ok (.baload, 1) := by decide +kernel
theorem d24_38 : decode jdk_52_method_5_code 38 = .ok (.sipush 255, 3) := by decide +kernel
theorem d24_41 : decode jdk_52_method_5_code 41 = .ok (.iand, 1) := by decide +kernel
theorem d24_42 : decode jdk_52_method_5_code 42 = .ok (.getstatic 59, 3) := by decide +kernel
theorem d24_45 : decode jdk_52_method_5_code 45 = .ok (.ishl, 1) := by decide +kernel
theorem d24_46 : decode jdk_52_method_5_code 46 = .ok (.aload_n 0, 1) := by decide +kernel
theorem d24_47 : decode jdk_52_method_5_code 47 = .ok (.iload_n 1, 1) := by decide +kernel
theorem d24_48 : decode jdk_52_method_5_code 48 = .ok (.baload, 1) := by decide +kernel
theorem d24_49 : decode jdk_52_method_5_code 49 = .ok (.sipush 255, 3) := by decide +kernel
theorem d24_52 : decode jdk_52_method_5_code 52 = .ok (.iand, 1) := by decide +kernel
theorem d24_53 : decode jdk_52_method_5_code 53 = .ok (.getstatic 63, 3) := by decide +kernel
theorem d24_56 : decode jdk_52_method_5_code 56 = .ok (.ishl, 1) := by decide +kernel
theorem d24_57 : decode jdk_52_method_5_code 57 = .ok (.ior, 1) := by decide +kernel
theorem d24_58 : decode jdk_52_method_5_code 58 = .ok (.i2c, 1) := by decide +kernel
theorem d24_59 : decode jdk_52_method_5_code 59 = .ok (.ireturn, 1) := by decide +kernel
def Q_u_get (Z : State) (t : Addr) (ii : Int32) (mm : Int32) (vs : List Value) (ch : Int32) (k : ClassId) (h0 : Heap) (n0 : Nat) (v : Option Value) (h : Heap) (L : List Loc) : Prop := v = some (.int ch) ∧ Fr n0 L ∧ h = h0
theorem ef_u_get (m : MethodId) (t : Addr) (ii : Int32)  : entryFrame m #[(.ref t), (.int ii)] 2 = mkF m 0 #[.val (.ref t), .val (.int ii)] [] := by first | (simp [entryFrame, mkF, argsToLocals, Value.category]; done) | rfl
theorem u_get (l : Launch) (Z : State) (a0 : Array Value) (hw : TW a0 Z) (ws : List Cond) (t : Addr) (ii : Int32) (mm : Int32) (vs : List Value) (ch : Int32) (k : ClassId) (h0 : Heap) (n0 : Nat) (Z0 : n0 ≤ h0.size) (O : Old Z n0 h0) (SU : US Z) (V : Arv Z h0 t k .byte mm vs (.int 0)) (b0 : ¬ (ii <<< ((1 : Int32) &&& 31)) < 0 ∧ (ii <<< ((1 : Int32) &&& 31)) < mm) (b1 : ¬ ((ii <<< ((1 : Int32) &&& 31)) + (1 : Int32)) < 0 ∧ ((ii <<< ((1 : Int32) &&& 31)) + (1 : Int32)) < mm) (v0 : vs.getD (ii <<< ((1 : Int32) &&& 31)).toNatClampNeg (.int 0) = .int (own_b0 ch)) (v1 : vs.getD ((ii <<< ((1 : Int32) &&& 31)) + (1 : Int32)).toNatClampNeg (.int 0) = .int (own_b1 ch)) (hc : ¬ ch < 0 ∧ ¬ (65535 : Int32) < ch) :
    own_MF l Z MN19 jdk_52_method_5_code 2 (some .char) ws (own_R 0 0 0 0) #[(.ref t), (.int ii)] h0 (Q_u_get Z t ii mm vs ch k h0 n0) := by
  have wd := @own_wd _ _ hw
  refine MetFree.of_bodySF (plainFor_of_name pn_java_lang_StringUTF16) hisR ?_
  intro p e s m args below meth c s₁ Bd hml0 hP hK
  obtain ⟨rfl, hZ, hh⟩ := hP
  have hx := Bd.exec
  have hby := Bd.bytes
  have hml : c.maxLocals = 2 := hml0
  have hown : s.vm.findClass "java/lang/StringUTF16" = some m.cls := findClass_of_methodNamed Bd.named
  have hnm := (name_of_methodNamed Bd.named Bd.method).1
  have X0 : Stand p l e (own_R 0 0 0 0) s m #[(.ref t), (.int ii)] below meth c s₁ [] 0 0 := Stand.of_body Bd
  have e0 : s₁.heap = h0 := by rw [← hh, Bd.state]; rfl
  have N0 := Fr.nil n0
  refine go_of (A := s₁.setTop (entryFrame m #[(.ref t), (.int ii)] 2)) (B := s₁.setTop (mkF m 0 #[.val (.ref t), .val (.int ii)] [])) (fun _ kk' => castTop (ef_u_get m t ii) kk') ?_
  obtain ⟨T1, X1, e1, st1⟩ := getS2 X0 hx hZ hown (host := "") (Or.inl (wd 101 rfl)) Via.refl e0 (SU.1.ext O.2) (g := (mkF m 0 #[.val (.ref t), .val (.int ii)] [])) rfl (hb hby d24_0)
  refine go_of (B := (T1.setTop (mkF m 3 #[.val (.ref t), .val (.int ii)] [(.int (1 : Int32))]))) (st1) ?_
  refine go_of (B := (T1.setTop (mkF m 33 #[.val (.ref t), .val (.int (ii <<< ((1 : Int32) &&& 31)))] [(.ref t)]))) (fun _ kk => XS.ifYes X1.here hx rfl (pc0 := 3) (pc' := 28) rfl (hb hby d24_3) rfl ((if0 _ _).trans (feq (by decide : ¬ ((1 : Int32) = (0 : Int32)))).2) (by decide) (by decide) (XS.iloadN X1.here hx rfl (hb hby d24_28) rfl (XS.iconst X1.here hx rfl (hb hby d24_29) (XS.ishl X1.here hx rfl (hb hby d24_30) rfl (XS.istoreN X1.here hx rfl (hb hby d24_31) rfl rfl (XS.aloadN X1.here hx rfl (hb hby d24_32) rfl rfl kk)))))) ?_
  refine go_of (B := (T1.setTop (mkF m 37 #[.val (.ref t), .val (.int ((ii <<< ((1 : Int32) &&& 31)) + (1 : Int32)))] [(.int (ii <<< ((1 : Int32) &&& 31))), (.ref t)]))) (fun _ kk => XS.iloadN X1.here hx rfl (hb hby d24_33) rfl (XS.iinc X1.here hx rfl (hb hby d24_34) rfl rfl kk)) ?_
  obtain ⟨cl2, Ar2, q2, Sz2, Nn2, Hh2, G2⟩ := id (V)
  refine go_of (B := (T1.setTop (mkF m 42 #[.val (.ref t), .val (.int ((ii <<< ((1 : Int32) &&& 31)) + (1 : Int32)))] [(.int ((own_b0 ch) &&& (255 : Int32)))]))) (fun _ kk => X1.baloadBytes hx (j := (ii <<< ((1 : Int32) &&& 31))) (v := (.int (own_b0 ch))) (by rw [e1]; exact Ar2.1) (State.isArrayOf_alike hZ.alike Ar2.2.1) Ar2.2.2 (inb_of Sz2 b0) (Hh2.at (inb_of Sz2 b0) v0) (g := (mkF m 37 #[.val (.ref t), .val (.int ((ii <<< ((1 : Int32) &&& 31)) + (1 : Int32)))] [(.int (ii <<< ((1 : Int32) &&& 31))), (.ref t)])) rfl rfl (hb hby d24_37) _ (XS.sipush X1.here hx rfl (hb hby d24_38) (XS.iand X1.here hx rfl (hb hby d24_41) rfl kk))) ?_
  obtain ⟨T3, X3, e3, st3⟩ := getS2 X1 hx hZ hown (host := "") (Or.inl (wd 102 rfl)) Via.refl e1 (SU.2.1.ext O.2) (g := (mkF m 42 #[.val (.ref t), .val (.int ((ii <<< ((1 : Int32) &&& 31)) + (1 : Int32)))] [(.int ((own_b0 ch) &&& (255 : Int32)))])) rfl (hb hby d24_42)
  refine go_of (B := (T3.setTop (mkF m 45 #[.val (.ref t), .val (.int ((ii <<< ((1 : Int32) &&& 31)) + (1 : Int32)))] [(.int (0 : Int32)), (.int ((own_b0 ch) &&& (255 : Int32)))]))) (st3) ?_
  refine go_of (B := (T3.setTop (mkF m 48 #[.val (.ref t), .val (.int ((ii <<< ((1 : Int32) &&& 31)) + (1 : Int32)))] [(.int ((ii <<< ((1 : Int32) &&& 31)) + (1 : Int32))), (.ref t), (.int (((own_b0 ch) &&& (255 : Int32)) <<< ((0 : Int32) &&& 31)))]))) (fun _ kk => XS.ishl X3.here hx rfl (hb hby d24_45) rfl (XS.aloadN X3.here hx rfl (hb hby d24_46) rfl rfl (XS.iloadN X3.here hx rfl (hb hby d24_47) rfl kk))) ?_
  obtain ⟨cl4, Ar4, q4, Sz4, Nn4, Hh4, G4⟩ := id (V)
  refine go_of (B := (T3.setTop (mkF m 53 #[.val (.ref t), .val (.int ((ii <<< ((1 : Int32) &&& 31)) + (1 : Int32)))] [(.int ((own_b1 ch) &&& (255 : Int32))), (.int (((own_b0 ch) &&& (255 : Int32)) <<< ((0 : Int32) &&& 31)))]))) (fun _ kk => X3.baloadBytes hx (j := ((ii <<< ((1 : Int32) &&& 31)) + (1 : Int32))) (v := (.int (own_b1 ch))) (by rw [e3]; exact Ar4.1) (State.isArrayOf_alike hZ.alike Ar4.2.1) Ar4.2.2 (inb_of Sz4 b1) (Hh4.at (inb_of Sz4 b1) v1) (g := (mkF m 48 #[.val (.ref t), .val (.int ((ii <<< ((1 : Int32) &&& 31)) + (1 : Int32)))] [(.int ((ii <<< ((1 : Int32) &&& 31)) + (1 : Int32))), (.ref t), (.int (((own_b0 ch) &&& (255 : Int32)) <<< ((0 : Int32) &&& 31)))])) rfl rfl (hb hby d24_48) _ (XS.sipush X3.here hx rfl (hb hby d24_49) (XS.iand X3.here hx rfl (hb hby d24_52) rfl kk))) ?_
  obtain ⟨T5, X5, e5, st5⟩ := getS2 X3 hx hZ hown (host := "") (Or.inl (wd 103 rfl)) Via.refl e3 (SU.2.2.ext O.2) (g := (mkF m 53 #[.val (.ref t), .val (.int ((ii <<< ((1 : Int32) &&& 31)) + (1 : Int32)))] [(.int ((own_b1 ch) &&& (255 : Int32))), (.int (((own_b0 ch) &&& (255 : Int32)) <<< ((0 : Int32) &&& 31)))])) rfl (hb hby d24_53)
  refine go_of (B := (T5.setTop (mkF m 56 #[.val (.ref t), .val (.int ((ii <<< ((1 : Int32) &&& 31)) + (1 : Int32)))] [(.int (8 : Int32)), (.int ((own_b1 ch) &&& (255 : Int32))), (.int (((own_b0 ch) &&& (255 : Int32)) <<< ((0 : Int32) &&& 31)))]))) (st5) ?_
  refine go_of (B := (T5.setTop (mkF m 59 #[.val (.ref t), .val (.int ((ii <<< ((1 : Int32) &&& 31)) + (1 : Int32)))] [(.int (((((own_b0 ch) &&& (255 : Int32)) <<< ((0 : Int32) &&& 31)) ||| (((own_b1 ch) &&& (255 : Int32)) <<< ((8 : Int32) &&& 31))).toUInt32.toUInt16.toUInt32.toInt32))]))) (fun _ kk => XS.ishl X5.here hx rfl (hb hby d24_56) rfl (XS.ior X5.here hx rfl (hb hby d24_57) rfl (XS.i2c X5.here hx rfl (hb hby d24_58) rfl kk))) ?_
  refine go_end X5 (v := some (.int (nar .char (((((own_b0 ch) &&& (255 : Int32)) <<< ((0 : Int32) &&& 31)) ||| (((own_b1 ch) &&& (255 : Int32)) <<< ((8 : Int32) &&& 31))).toUInt32.toUInt16.toUInt32.toInt32)))) (fun h => by rw [Bd.returns] at h; cases h) Bd.notSynchronized (by decide) (by decide) (Q := (Q_u_get Z t ii mm vs ch k h0 n0)) ?_ (fun fs hr => retN X5 hx (t := .char) Bd.returns (by simp) (hb hby d24_59) hr)
  unfold Q_u_get
  try rw [e5]
  refine ⟨?_, N0, rfl⟩
  rw [own_gc hc, own_narc16 hc]
theorem d8_0 : decode jdk_42_method_154_code 0 = .ok (.getstatic 38, 3) := by decide +kernel
theorem d8_3 : decode jdk_42_method_154_code 3 = .ok (.ifCond .eq 14, 3) := by decide +kernel
theorem d8_6 : decode jdk_42_method_154_code 6 = .ok (.aload_n 0, 1) := by decide +kernel
theorem d8_7 : decode jdk_42_method_154_code 7 = .ok (.getfield 15, 3) := by decide +kernel
theorem d8_10 : decode jdk_42_method_154_code 10 = .ok (.ifCond .ne 7, 3) := by decide +kernel
theorem d8_13 : decode jdk_42_method_154_code 13 = .ok (.iconst 1, 1) := by decide +kernel
theorem d8_14 : decode jdk_42_method_154_code 14 = .ok (.goto 4, 3) := by decide +kernel
theorem d8_18 : decode jdk_42_method_154_code 18 = .ok (.ireturn, 1) := by decide +kernel
def Q_str_latin (Z : State) (a : Addr) (gC : Int32) (h0 : Heap) (n0 : Nat) (v : Option Value) (h : Heap) (L : List Loc) : Prop := v = some (.int 1) ∧ Fr n0 L ∧ h = h0
theorem ef_str_latin (m : MethodId) (a : Addr)  : entryFrame m #[(.ref a)] 1 = mkF m 0 #[.val (.ref a)] [] := by first | (simp [entryFrame, mkF, argsToLocals, Value.category]; done) | rfl
theorem str_latin (l : Launch) (Z : State) (a0 : Array Value) (hw : TW a0 Z) (ws : List Cond) (a : Addr) (gC : Int32) (h0 : Heap) (n0 : Nat) (Z0 : n0 ≤ h0.size) (O : Old Z n0 h0) (SC : Sta Z Z.heap "java/lang/String" "COMPACT_STRINGS" "Z" (.int gC)) (hgC : ¬ gC = (0 : Int32)) (Fc : Fld Z h0 a "java/lang/String" "coder" "B" (.int 0)) :
    own_MF l Z MN10 jdk_42_method_154_code 1 (some .boolean) ws (own_R 0 0 0 0) #[(.ref a)] h0 (Q_str_latin Z a gC h0 n0) := by
  have wd := @own_wd _ _ hw
  refine MetFree.of_bodySF (plainFor_of_name pn_java_lang_String) hisR ?_
  intro p e s m args below meth c s₁ Bd hml0 hP hK
  obtain ⟨rfl, hZ, hh⟩ := hP
  have hx := Bd.exec
  have hby := Bd.bytes
  have hml : c.maxLocals = 1 := hml0
  have hown : s.vm.findClass "java/lang/String" = some m.cls := findClass_of_methodNamed Bd.named
  have hnm := (name_of_methodNamed Bd.named Bd.method).1
  have X0 : Stand p l e (own_R 0 0 0 0) s m #[(.ref a)] below meth c s₁ [] 0 0 := Stand.of_body Bd
  have e0 : s₁.heap = h0 := by rw [← hh, Bd.state]; rfl
  have N0 := Fr.nil n0
  refine go_of (A := s₁.setTop (entryFrame m #[(.ref a)] 1)) (B := s₁.setTop (mkF m 0 #[.val (.ref a)] [])) (fun _ kk' => castTop (ef_str_latin m a) kk') ?_
  obtain ⟨T1, X1, e1, st1⟩ := getS2 X0 hx hZ hown (host := "") (Or.inl (wd 47 rfl)) Via.refl e0 (SC.ext O.2) (g := (mkF m 0 #[.val (.ref a)] [])) rfl (hb hby d8_0)
  refine go_of (B := (T1.setTop (mkF m 3 #[.val (.ref a)] [(.int gC)]))) (st1) ?_
  refine go_of (B := (T1.setTop (mkF m 7 #[.val (.ref a)] [(.ref a)]))) (fun _ kk => XS.ifNo X1.here hx rfl (hb hby d8_3) rfl ((if0 _ _).trans (feq hgC).1) (XS.aloadN X1.here hx rfl (hb hby d8_6) rfl rfl kk)) ?_
  obtain ⟨T2, X2, e2, st2⟩ := getF X1 hx hZ hown (host := "") (Or.inl (wd 27 rfl)) Via.refl e1 Fc (g := (mkF m 7 #[.val (.ref a)] [(.ref a)])) rfl rfl (hb hby d8_7)
  refine go_of (B := (T2.setTop (mkF m 10 #[.val (.ref a)] [(.int (0 : Int32))]))) (st2) ?_
  refine go_of (B := (T2.setTop (mkF m 18 #[.val (.ref a)] [(.int (1 : Int32))]))) (fun _ kk => XS.ifNo X2.here hx rfl (hb hby d8_10) rfl ((if0 _ _).trans (teq (by decide : (0 : Int32) = (0 : Int32))).2) (XS.iconst X2.here hx rfl (hb hby d8_13) (XS.goto X2.here hx rfl (pc0 := 14) (pc' := 18) rfl (hb hby d8_14) (by decide) (by decide) kk))) ?_
  refine go_end X2 (v := some (.int (nar .boolean (1 : Int32)))) (fun h => by rw [Bd.returns] at h; cases h) Bd.notSynchronized (by decide) (by decide) (Q := (Q_str_latin Z a gC h0 n0)) ?_ (fun fs hr => retN X2 hx (t := .boolean) Bd.returns (by simp) (hb hby d8_18) hr)
  unfold Q_str_latin
  try rw [e2]
  exact ⟨rfl, N0, rfl⟩
theorem d8_17 : decode jdk_42_method_154_code 17 = .ok (.iconst 0, 1) := by decide +kernel
def Q_u_lat (Z : State) (a : Addr) (gC : Int32) (h0 : Heap) (n0 : Nat) (v : Option Value) (h : Heap) (L : List Loc) : Prop := v = some (.int 0) ∧ Fr n0 L ∧ h = h0
theorem ef_u_lat (m : MethodId) (a : Addr)  : entryFrame m #[(.ref a)] 1 = mkF m 0 #[.val (.ref a)] [] := by first | (simp [entryFrame, mkF, argsToLocals, Value.category]; done) | rfl
theorem u_lat (l : Launch) (Z : State) (a0 : Array Value) (hw : TW a0 Z) (ws : List Cond) (a : Addr) (gC : Int32) (h0 : Heap) (n0 : Nat) (Z0 : n0 ≤ h0.size) (O : Old Z n0 h0) (SC : Sta Z Z.heap "java/lang/String" "COMPACT_STRINGS" "Z" (.int gC)) (hgC : ¬ gC = (0 : Int32)) (Fc : Fld Z h0 a "java/lang/String" "coder" "B" (.int 1)) :
    own_MF l Z MN10 jdk_42_method_154_code 1 (some .boolean) ws (own_R 0 0 0 0) #[(.ref a)] h0 (Q_u_lat Z a gC h0 n0) := by
  have wd := @own_wd _ _ hw
  refine MetFree.of_bodySF (plainFor_of_name pn_java_lang_String) hisR ?_
  intro p e s m args below meth c s₁ Bd hml0 hP hK
  obtain ⟨rfl, hZ, hh⟩ := hP
  have hx := Bd.exec
  have hby := Bd.bytes
  have hml : c.maxLocals = 1 := hml0
  have hown : s.vm.findClass "java/lang/String" = some m.cls := findClass_of_methodNamed Bd.named
  have hnm := (name_of_methodNamed Bd.named Bd.method).1
  have X0 : Stand p l e (own_R 0 0 0 0) s m #[(.ref a)] below meth c s₁ [] 0 0 := Stand.of_body Bd
  have e0 : s₁.heap = h0 := by rw [← hh, Bd.state]; rfl
  have N0 := Fr.nil n0
  refine go_of (A := s₁.setTop (entryFrame m #[(.ref a)] 1)) (B := s₁.setTop (mkF m 0 #[.val (.ref a)] [])) (fun _ kk' => castTop (ef_u_lat m a) kk') ?_
  obtain ⟨T1, X1, e1, st1⟩ := getS2 X0 hx hZ hown (host := "") (Or.inl (wd 47 rfl)) Via.refl e0 (SC.ext O.2) (g := (mkF m 0 #[.val (.ref a)] [])) rfl (hb hby d8_0)
  refine go_of (B := (T1.setTop (mkF m 3 #[.val (.ref a)] [(.int gC)]))) (st1) ?_
  refine go_of (B := (T1.setTop (mkF m 7 #[.val (.ref a)] [(.ref a)]))) (fun _ kk => XS.ifNo X1.here hx rfl (hb hby d8_3) rfl ((if0 _ _).trans (feq hgC).1) (XS.aloadN X1.here hx rfl (hb hby d8_6) rfl rfl kk)) ?_
  obtain ⟨T2, X2, e2, st2⟩ := getF X1 hx hZ hown (host := "") (Or.inl (wd 27 rfl)) Via.refl e1 Fc (g := (mkF m 7 #[.val (.ref a)] [(.ref a)])) rfl rfl (hb hby d8_7)
  refine go_of (B := (T2.setTop (mkF m 10 #[.val (.ref a)] [(.int (1 : Int32))]))) (st2) ?_
  refine go_of (B := (T2.setTop (mkF m 18 #[.val (.ref a)] [(.int (0 : Int32))]))) (fun _ kk => XS.ifYes X2.here hx rfl (pc0 := 10) (pc' := 17) rfl (hb hby d8_10) rfl ((if0 _ _).trans (feq (by decide : ¬ ((1 : Int32) = (0 : Int32)))).2) (by decide) (by decide) (XS.iconst X2.here hx rfl (hb hby d8_17) kk)) ?_
  refine go_end X2 (v := some (.int (nar .boolean (0 : Int32)))) (fun h => by rw [Bd.returns] at h; cases h) Bd.notSynchronized (by decide) (by decide) (Q := (Q_u_lat Z a gC h0 n0)) ?_ (fun fs hr => retN X2 hx (t := .boolean) Bd.returns (by simp) (hb hby d8_18) hr)
  unfold Q_u_lat
  try rw [e2]
  exact ⟨rfl, N0, rfl⟩
def own_min (x y : Int32) : Int32 := if y < x then y else x
theorem d14_0 : decode jdk_29_method_69_code 0 = .ok (.iload_n 0, 1) := by decide +kernel
theorem d14_1 : decode jdk_29_method_69_code 1 = .ok (.iload_n 1, 1) := by decide +kernel
theorem d14_2 : decode jdk_29_method_69_code 2 = .ok (.if_icmp .gt 7, 3) := by decide +kernel
theorem d14_9 : decode jdk_29_method_69_code 9 = .ok (.iload_n 1, 1) := by decide +kernel
theorem d14_10 : decode jdk_29_method_69_code 10 = .ok (.ireturn, 1) := by decide +kernel
def Q_v_min (Z : State) (x : Int32) (y : Int32) (r : Int32) (h0 : Heap) (n0 : Nat) (v : Option Value) (h : Heap) (L : List Loc) : Prop := v = some (.int r) ∧ Fr n0 L ∧ h = h0
theorem d14_5 : decode jdk_29_method_69_code 5 = .ok (.iload_n 0, 1) := by decide +kernel
theorem d14_6 : decode jdk_29_method_69_code 6 = .ok (.goto 4, 3) := by decide +kernel
theorem ef_v_min (m : MethodId) (x : Int32) (y : Int32)  : entryFrame m #[(.int x), (.int y)] 2 = mkF m 0 #[.val (.int x), .val (.int y)] [] := by first | (simp [entryFrame, mkF, argsToLocals, Value.category]; done) | rfl
theorem v_min (l : Launch) (Z : State) (a0 : Array Value) (hw : TW a0 Z) (ws : List Cond) (x : Int32) (y : Int32) (r : Int32) (h0 : Heap) (n0 : Nat) (Z0 : n0 ≤ h0.size) (hr : own_min x y = r) :
    own_MF l Z MN4 jdk_29_method_69_code 2 (some .int) ws (own_R 0 0 0 0) #[(.int x), (.int y)] h0 (Q_v_min Z x y r h0 n0) := by
  have wd := @own_wd _ _ hw
  refine MetFree.of_bodySF (Jvm.Free.JP.mathPlain rfl (by decide +kernel)) hisR ?_
  intro p e s m args below meth c s₁ Bd hml0 hP hK
  obtain ⟨rfl, hZ, hh⟩ := hP
  have hx := Bd.exec
  have hby := Bd.bytes
  have hml : c.maxLocals = 2 := hml0
  have hown : s.vm.findClass "java/lang/Math" = some m.cls := findClass_of_methodNamed Bd.named
  have hnm := (name_of_methodNamed Bd.named Bd.method).1
  have X0 : Stand p l e (own_R 0 0 0 0) s m #[(.int x), (.int y)] below meth c s₁ [] 0 0 := Stand.of_body Bd
  have e0 : s₁.heap = h0 := by rw [← hh, Bd.state]; rfl
  have N0 := Fr.nil n0
  refine go_of (A := s₁.setTop (entryFrame m #[(.int x), (.int y)] 2)) (B := s₁.setTop (mkF m 0 #[.val (.int x), .val (.int y)] [])) (fun _ kk' => castTop (ef_v_min m x y) kk') ?_
  refine go_of (B := (s₁.setTop (mkF m 2 #[.val (.int x), .val (.int y)] [(.int y), (.int x)]))) (fun _ kk => XS.iloadN X0.here hx rfl (hb hby d14_0) rfl (XS.iloadN X0.here hx rfl (hb hby d14_1) rfl kk)) ?_
  by_cases hcc1 : y < x
  · refine go_of (B := (s₁.setTop (mkF m 10 #[.val (.int x), .val (.int y)] [(.int y)]))) (fun _ kk => XS.icmpYes X0.here hx rfl (pc0 := 2) (pc' := 9) rfl (hb hby d14_2) rfl (tlt hcc1).2.2.1 (by decide) (by decide) (XS.iloadN X0.here hx rfl (hb hby d14_9) rfl kk)) ?_
    refine go_end X0 (v := some (.int y)) (fun h => by rw [Bd.returns] at h; cases h) Bd.notSynchronized (by decide) (by decide) (Q := (Q_v_min Z x y r h0 n0)) ?_ (fun fs hr => own_retI X0 hx Bd.returns (hb hby d14_10) hr)
    unfold Q_v_min
    try rw [e0]
    refine ⟨?_, N0, rfl⟩
    rw [← hr]; simp [own_min, hcc1]
  · refine go_of (B := (s₁.setTop (mkF m 10 #[.val (.int x), .val (.int y)] [(.int x)]))) (fun _ kk => XS.icmpNo X0.here hx rfl (hb hby d14_2) rfl (flt hcc1).2.2.1 (XS.iloadN X0.here hx rfl (hb hby d14_5) rfl (XS.goto X0.here hx rfl (pc0 := 6) (pc' := 10) rfl (hb hby d14_6) (by decide) (by decide) kk))) ?_
    refine go_end X0 (v := some (.int x)) (fun h => by rw [Bd.returns] at h; cases h) Bd.notSynchronized (by decide) (by decide) (Q := (Q_v_min Z x y r h0 n0)) ?_ (fun fs hr => own_retI X0 hx Bd.returns (hb hby d14_10) hr)
    unfold Q_v_min
    try rw [e0]
    refine ⟨?_, N0, rfl⟩
    rw [← hr]; simp [own_min, hcc1]
theorem d11_0 : decode jdk_43_method_22_code 0 = .ok (.iload_n 1, 1) := by decide +kernel
theorem d11_1 : decode jdk_43_method_22_code 1 = .ok (.invokestatic 88, 3) := by decide +kernel
theorem pd__I_Z : parseMethodDescriptor "(I)Z" = some ⟨[.int], some .boolean⟩ := by decide +kernel
theorem d11_4 : decode jdk_43_method_22_code 4 = .ok (.ifCond .ne 5, 3) := by decide +kernel
theorem d11_9 : decode jdk_43_method_22_code 9 = .ok (.iload_n 2, 1) := by decide +kernel
theorem d11_10 : decode jdk_43_method_22_code 10 = .ok (.iconst 0, 1) := by decide +kernel
theorem d11_11 : decode jdk_43_method_22_code 11 = .ok (.invokestatic 92, 3) := by decide +kernel
theorem pd__II_I : parseMethodDescriptor "(II)I" = some ⟨[.int, .int], some .int⟩ := by decide +kernel
theorem d11_14 : decode jdk_43_method_22_code 14 = .ok (.istore_n 2, 1) := by decide +kernel
theorem d11_15 : decode jdk_43_method_22_code 15 = .ok (.iload_n 3, 1) := by decide +kernel
theorem d11_16 : decode jdk_43_method_22_code 16 = .ok (.aload_n 0, 1) := by decide +kernel
theorem d11_17 : decode jdk_43_method_22_code 17 = .ok (.arraylength, 1) := by decide +kernel
theorem d11_18 : decode jdk_43_method_22_code 18 = .ok (.invokestatic 38, 3) := by decide +kernel
theorem d11_21 : decode jdk_43_method_22_code 21 = .ok (.istore_n 3, 1) := by decide +kernel
theorem d11_22 : decode jdk_43_method_22_code 22 = .ok (.iload_n 2, 1) := by decide +kernel
theorem d11_23 : decode jdk_43_method_22_code 23 = .ok (.iload_n 3, 1) := by decide +kernel
theorem d11_24 : decode jdk_43_method_22_code 24 = .ok (.if_icmp .lt 5, 3) := by decide +kernel
theorem d11_27 : decode jdk_43_method_22_code 27 = .ok (.iconst (-1), 1) := by decide +kernel
theorem d11_28 : decode jdk_43_method_22_code 28 = .ok (.ireturn, 1) := by decide +kernel
def Q_lio_0 (Z : State) (t : Addr) (wc : Int32) (k : ClassId) (h0 : Heap) (n0 : Nat) (v : Option Value) (h : Heap) (L : List Loc) : Prop := ∃ r : Int32, v = some (.int r) ∧ (r < 0 ↔ own_hs (own_b8 wc) [] = false) ∧ Fr n0 L ∧ h = h0
theorem ef_lio_0 (m : MethodId) (t : Addr) (wc : Int32)  : entryFrame m #[(.ref t), (.int wc), (.int (0 : Int32)), (.int (0 : Int32))] 4 = mkF m 0 #[.val (.ref t), .val (.int wc), .val (.int (0 : Int32)), .val (.int (0 : Int32))] [] := by first | (simp [entryFrame, mkF, argsToLocals, Value.category]; done) | rfl
theorem lio_0 (l : Launch) (Z : State) (a0 : Array Value) (hw : TW a0 Z) (ws : List Cond) (t : Addr) (wc : Int32) (k : ClassId) (h0 : Heap) (n0 : Nat) (Z0 : n0 ≤ h0.size) (V : Arv Z h0 t k .byte 0 [] (.int 0)) (hwc : ¬ wc < 0 ∧ ¬ (255 : Int32) < wc) :
    own_MF l Z MN13 jdk_43_method_22_code 4 (some .int) ws (own_R 1 0 0 13) #[(.ref t), (.int wc), (.int (0 : Int32)), (.int (0 : Int32))] h0 (Q_lio_0 Z t wc k h0 n0) := by
  have wd := @own_wd _ _ hw
  refine MetFree.of_bodySF (plainFor_of_name pn_java_lang_StringLatin1) hisR ?_
  intro p e s m args below meth c s₁ Bd hml0 hP hK
  obtain ⟨rfl, hZ, hh⟩ := hP
  have hx := Bd.exec
  have hby := Bd.bytes
  have hml : c.maxLocals = 4 := hml0
  have hown : s.vm.findClass "java/lang/StringLatin1" = some m.cls := findClass_of_methodNamed Bd.named
  have hnm := (name_of_methodNamed Bd.named Bd.method).1
  have X0 : Stand p l e (own_R 1 0 0 13) s m #[(.ref t), (.int wc), (.int (0 : Int32)), (.int (0 : Int32))] below meth c s₁ [] 0 0 := Stand.of_body Bd
  have e0 : s₁.heap = h0 := by rw [← hh, Bd.state]; rfl
  have N0 := Fr.nil n0
  refine go_of (A := s₁.setTop (entryFrame m #[(.ref t), (.int wc), (.int (0 : Int32)), (.int (0 : Int32))] 4)) (B := s₁.setTop (mkF m 0 #[.val (.ref t), .val (.int wc), .val (.int (0 : Int32)), .val (.int (0 : Int32))] [])) (fun _ kk' => castTop (ef_lio_0 m t wc) kk') ?_
  refine go_of (B := (s₁.setTop (mkF m 1 #[.val (.ref t), .val (.int wc), .val (.int (0 : Int32)), .val (.int (0 : Int32))] [(.int wc)]))) (fun _ kk => XS.iloadN X0.here hx rfl (hb hby d11_0) rfl kk) ?_
  obtain ⟨_, _, ⟨T1, L1, k1, n1⟩, -, X1, ⟨Lc1, hQ1, l1, y1, z1⟩, st1⟩ := Jvm.LawKit.callS X0 hx (y := MN12) hown (mvT hZ (wd 62 rfl)) (mvT hZ (wd 63 rfl)) (mvT hZ (wd 60 rfl)) (mvT hZ (wd 64 rfl)) (by decide) (backOf (W := 0) (cani l Z a0 hw [] wc h0 n0 (by omega) hwc) hZ (wd 64 rfl) (wd 60 rfl) (by decide) (by decide)) (g := (mkF m 1 #[.val (.ref t), .val (.int wc), .val (.int (0 : Int32)), .val (.int (0 : Int32))] [(.int wc)])) rfl (by rw [hml]; rfl) (argsL := [(.int wc)]) (rest := []) (lenOf pd__I_Z rfl) rfl (Nat.le_of_eq rfl) (hb hby d11_1) (fun _ _ => ⟨rfl, e0, (by decide : 0 + 0 ≤ _), (by decide : 0 + 0 ≤ _)⟩)
  dsimp only [Pt.U, Pt.locs, Pt.cells, Pt.slots] at X1 l1 y1 z1 st1 hQ1
  subst l1 y1 z1
  obtain ⟨rfl, N1q, e1⟩ := hQ1
  have N1 := Fr.app N0 N1q
  refine go_of (B := (T1.setTop (mkF m 4 #[.val (.ref t), .val (.int wc), .val (.int (0 : Int32)), .val (.int (0 : Int32))] [(.int (1 : Int32))]))) (st1) ?_
  refine go_of (B := (T1.setTop (mkF m 11 #[.val (.ref t), .val (.int wc), .val (.int (0 : Int32)), .val (.int (0 : Int32))] [(.int (0 : Int32)), (.int (0 : Int32))]))) (fun _ kk => XS.ifYes X1.here hx rfl (pc0 := 4) (pc' := 9) rfl (hb hby d11_4) rfl ((if0 _ _).trans (feq (by decide : ¬ ((1 : Int32) = (0 : Int32)))).2) (by decide) (by decide) (XS.iloadN X1.here hx rfl (hb hby d11_9) rfl (XS.iconst X1.here hx rfl (hb hby d11_10) kk))) ?_
  obtain ⟨_, _, ⟨T2, L2, k2, n2⟩, -, X2, ⟨Lc2, hQ2, l2, y2, z2⟩, st2⟩ := Jvm.LawKit.callS X1 hx (y := MN3) hown (mvT hZ (wd 65 rfl)) (mvT hZ (wd 66 rfl)) (mvT hZ (wd 67 rfl)) (mvT hZ (wd 68 rfl)) (by decide) (backOf (W := 0) (v_max l Z a0 hw [] (0 : Int32) (0 : Int32) (0 : Int32) h0 n0 (by omega) (by decide)) hZ (wd 68 rfl) (wd 67 rfl) (by decide) (by decide)) (g := (mkF m 11 #[.val (.ref t), .val (.int wc), .val (.int (0 : Int32)), .val (.int (0 : Int32))] [(.int (0 : Int32)), (.int (0 : Int32))])) rfl (by rw [hml]; rfl) (argsL := [(.int (0 : Int32)), (.int (0 : Int32))]) (rest := []) (lenOf pd__II_I rfl) rfl (Nat.le_of_eq rfl) (hb hby d11_11) (fun _ _ => ⟨rfl, e1, (by decide : 0 + 0 ≤ _), (by decide : 0 + 0 ≤ _)⟩)
  dsimp only [Pt.U, Pt.locs, Pt.cells, Pt.slots] at X2 l2 y2 z2 st2 hQ2
  subst l2 y2 z2
  obtain ⟨rfl, N2q, e2⟩ := hQ2
  have N2 := Fr.app N1 N2q
  refine go_of (B := (T2.setTop (mkF m 14 #[.val (.ref t), .val (.int wc), .val (.int (0 : Int32)), .val (.int (0 : Int32))] [(.int (0 : Int32))]))) (st2) ?_
  refine go_of (B := (T2.setTop (mkF m 17 #[.val (.ref t), .val (.int wc), .val (.int (0 : Int32)), .val (.int (0 : Int32))] [(.ref t), (.int (0 : Int32))]))) (fun _ kk => XS.istoreN X2.here hx rfl (hb hby d11_14) rfl rfl (XS.iloadN X2.here hx rfl (hb hby d11_15) rfl (XS.aloadN X2.here hx rfl (hb hby d11_16) rfl rfl kk))) ?_
  obtain ⟨cl3, Ar3, q3, Sz3, Nn3, Hh3, G3⟩ := id (V)
  have ln3 := len_of Sz3 Nn3
  refine go_of (B := (T2.setTop (mkF m 18 #[.val (.ref t), .val (.int wc), .val (.int (0 : Int32)), .val (.int (0 : Int32))] [(.int (0 : Int32)), (.int (0 : Int32))]))) (fun _ kk => X2.arraylength hx (by rw [e2]; exact Ar3.1) (State.isArrayOf_alike hZ.alike Ar3.2.1) (g := (mkF m 17 #[.val (.ref t), .val (.int wc), .val (.int (0 : Int32)), .val (.int (0 : Int32))] [(.ref t), (.int (0 : Int32))])) rfl rfl (hb hby d11_17) _ (by rw [ln3]; exact kk)) ?_
  obtain ⟨_, _, ⟨T4, L4, k4, n4⟩, -, X4, ⟨Lc4, hQ4, l4, y4, z4⟩, st4⟩ := Jvm.LawKit.callS X2 hx (y := MN4) hown (mvT hZ (wd 69 rfl)) (mvT hZ (wd 70 rfl)) (mvT hZ (wd 67 rfl)) (mvT hZ (wd 71 rfl)) (by decide) (backOf (W := 0) (v_min l Z a0 hw [] (0 : Int32) (0 : Int32) (0 : Int32) h0 n0 (by omega) (by decide)) hZ (wd 71 rfl) (wd 67 rfl) (by decide) (by decide)) (g := (mkF m 18 #[.val (.ref t), .val (.int wc), .val (.int (0 : Int32)), .val (.int (0 : Int32))] [(.int (0 : Int32)), (.int (0 : Int32))])) rfl (by rw [hml]; rfl) (argsL := [(.int (0 : Int32)), (.int (0 : Int32))]) (rest := []) (lenOf pd__II_I rfl) rfl (Nat.le_of_eq rfl) (hb hby d11_18) (fun _ _ => ⟨rfl, e2, (by decide : 0 + 0 ≤ _), (by decide : 0 + 0 ≤ _)⟩)
  dsimp only [Pt.U, Pt.locs, Pt.cells, Pt.slots] at X4 l4 y4 z4 st4 hQ4
  subst l4 y4 z4
  obtain ⟨rfl, N4q, e4⟩ := hQ4
  have N4 := Fr.app N2 N4q
  refine go_of (B := (T4.setTop (mkF m 21 #[.val (.ref t), .val (.int wc), .val (.int (0 : Int32)), .val (.int (0 : Int32))] [(.int (0 : Int32))]))) (st4) ?_
  refine go_of (B := (T4.setTop (mkF m 28 #[.val (.ref t), .val (.int wc), .val (.int (0 : Int32)), .val (.int (0 : Int32))] [(.int (-1 : Int32))]))) (fun _ kk => XS.istoreN X4.here hx rfl (hb hby d11_21) rfl rfl (XS.iloadN X4.here hx rfl (hb hby d11_22) rfl (XS.iloadN X4.here hx rfl (hb hby d11_23) rfl (XS.icmpNo X4.here hx rfl (hb hby d11_24) rfl (flt (by decide : ¬ ((0 : Int32) < (0 : Int32)))).1 (XS.iconst X4.here hx rfl (hb hby d11_27) kk))))) ?_
  refine go_end X4 (v := some (.int (-1 : Int32))) (fun h => by rw [Bd.returns] at h; cases h) Bd.notSynchronized (by decide) (by decide) (Q := (Q_lio_0 Z t wc k h0 n0)) ?_ (fun fs hr => own_retI X4 hx Bd.returns (hb hby d11_28) hr)
  unfold Q_lio_0
  try rw [e4]
  exact ⟨_, rfl, iff_of_true (by decide) rfl, N4, rfl⟩
theorem d10_0 : decode jdk_42_method_152_code 0 = .ok (.getstatic 38, 3) := by decide +kernel
theorem d10_3 : decode jdk_42_method_152_code 3 = .ok (.ifCond .eq 10, 3) := by decide +kernel
theorem d10_6 : decode jdk_42_method_152_code 6 = .ok (.aload_n 0, 1) := by decide +kernel
theorem d10_7 : decode jdk_42_method_152_code 7 = .ok (.getfield 15, 3) := by decide +kernel
theorem d10_10 : decode jdk_42_method_152_code 10 = .ok (.goto 4, 3) := by decide +kernel
theorem d10_14 : decode jdk_42_method_152_code 14 = .ok (.ireturn, 1) := by decide +kernel
def Q_str_coder (Z : State) (a : Addr) (gC : Int32) (h0 : Heap) (n0 : Nat) (v : Option Value) (h : Heap) (L : List Loc) : Prop := v = some (.int 0) ∧ Fr n0 L ∧ h = h0
theorem ef_str_coder (m : MethodId) (a : Addr)  : entryFrame m #[(.ref a)] 1 = mkF m 0 #[.val (.ref a)] [] := by first | (simp [entryFrame, mkF, argsToLocals, Value.category]; done) | rfl
theorem str_coder (l : Launch) (Z : State) (a0 : Array Value) (hw : TW a0 Z) (ws : List Cond) (a : Addr) (gC : Int32) (h0 : Heap) (n0 : Nat) (Z0 : n0 ≤ h0.size) (O : Old Z n0 h0) (SC : Sta Z Z.heap "java/lang/String" "COMPACT_STRINGS" "Z" (.int gC)) (hgC : ¬ gC = (0 : Int32)) (Fc : Fld Z h0 a "java/lang/String" "coder" "B" (.int 0)) :
    own_MF l Z MN7 jdk_42_method_152_code 1 (some .byte) ws (own_R 0 0 0 0) #[(.ref a)] h0 (Q_str_coder Z a gC h0 n0) := by
  have wd := @own_wd _ _ hw
  refine MetFree.of_bodySF (plainFor_of_name pn_java_lang_String) hisR ?_
  intro p e s m args below meth c s₁ Bd hml0 hP hK
  obtain ⟨rfl, hZ, hh⟩ := hP
  have hx := Bd.exec
  have hby := Bd.bytes
  have hml : c.maxLocals = 1 := hml0
  have hown : s.vm.findClass "java/lang/String" = some m.cls := findClass_of_methodNamed Bd.named
  have hnm := (name_of_methodNamed Bd.named Bd.method).1
  have X0 : Stand p l e (own_R 0 0 0 0) s m #[(.ref a)] below meth c s₁ [] 0 0 := Stand.of_body Bd
  have e0 : s₁.heap = h0 := by rw [← hh, Bd.state]; rfl
  have N0 := Fr.nil n0
  refine go_of (A := s₁.setTop (entryFrame m #[(.ref a)] 1)) (B := s₁.setTop (mkF m 0 #[.val (.ref a)] [])) (fun _ kk' => castTop (ef_str_coder m a) kk') ?_
  obtain ⟨T1, X1, e1, st1⟩ := getS2 X0 hx hZ hown (host := "") (Or.inl (wd 47 rfl)) Via.refl e0 (SC.ext O.2) (g := (mkF m 0 #[.val (.ref a)] [])) rfl (hb hby d10_0)
  refine go_of (B := (T1.setTop (mkF m 3 #[.val (.ref a)] [(.int gC)]))) (st1) ?_
  refine go_of (B := (T1.setTop (mkF m 7 #[.val (.ref a)] [(.ref a)]))) (fun _ kk => XS.ifNo X1.here hx rfl (hb hby d10_3) rfl ((if0 _ _).trans (feq hgC).1) (XS.aloadN X1.here hx rfl (hb hby d10_6) rfl rfl kk)) ?_
  obtain ⟨T2, X2, e2, st2⟩ := getF X1 hx hZ hown (host := "") (Or.inl (wd 27 rfl)) Via.refl e1 Fc (g := (mkF m 7 #[.val (.ref a)] [(.ref a)])) rfl rfl (hb hby d10_7)
  refine go_of (B := (T2.setTop (mkF m 10 #[.val (.ref a)] [(.int (0 : Int32))]))) (st2) ?_
  refine go_of (B := (T2.setTop (mkF m 14 #[.val (.ref a)] [(.int (0 : Int32))]))) (fun _ kk => XS.goto X2.here hx rfl (pc0 := 10) (pc' := 14) rfl (hb hby d10_10) (by decide) (by decide) kk) ?_
  refine go_end X2 (v := some (.int (nar .byte (0 : Int32)))) (fun h => by rw [Bd.returns] at h; cases h) Bd.notSynchronized (by decide) (by decide) (Q := (Q_str_coder Z a gC h0 n0)) ?_ (fun fs hr => retN X2 hx (t := .byte) Bd.returns (by simp) (hb hby d10_14) hr)
  unfold Q_str_coder
  try rw [e2]
  exact ⟨rfl, N0, rfl⟩
def Q_u_cod (Z : State) (a : Addr) (gC : Int32) (h0 : Heap) (n0 : Nat) (v : Option Value) (h : Heap) (L : List Loc) : Prop := v = some (.int 1) ∧ Fr n0 L ∧ h = h0
theorem ef_u_cod (m : MethodId) (a : Addr)  : entryFrame m #[(.ref a)] 1 = mkF m 0 #[.val (.ref a)] [] := by first | (simp [entryFrame, mkF, argsToLocals, Value.category]; done) | rfl
theorem u_cod (l : Launch) (Z : State) (a0 : Array Value) (hw : TW a0 Z) (ws : List Cond) (a : Addr) (gC : Int32) (h0 : Heap) (n0 : Nat) (Z0 : n0 ≤ h0.size) (O : Old Z n0 h0) (SC : Sta Z Z.heap "java/lang/String" "COMPACT_STRINGS" "Z" (.int gC)) (hgC : ¬ gC = (0 : Int32)) (Fc : Fld Z h0 a "java/lang/String" "coder" "B" (.int 1)) :
    own_MF l Z MN7 jdk_42_method_152_code 1 (some .byte) ws (own_R 0 0 0 0) #[(.ref a)] h0 (Q_u_cod Z a gC h0 n0) := by
  have wd := @own_wd _ _ hw
  refine MetFree.of_bodySF (plainFor_of_name pn_java_lang_String) hisR ?_
  intro p e s m args below meth c s₁ Bd hml0 hP hK
  obtain ⟨rfl, hZ, hh⟩ := hP
  have hx := Bd.exec
  have hby := Bd.bytes
  have hml : c.maxLocals = 1 := hml0
  have hown : s.vm.findClass "java/lang/String" = some m.cls := findClass_of_methodNamed Bd.named
  have hnm := (name_of_methodNamed Bd.named Bd.method).1
  have X0 : Stand p l e (own_R 0 0 0 0) s m #[(.ref a)] below meth c s₁ [] 0 0 := Stand.of_body Bd
  have e0 : s₁.heap = h0 := by rw [← hh, Bd.state]; rfl
  have N0 := Fr.nil n0
  refine go_of (A := s₁.setTop (entryFrame m #[(.ref a)] 1)) (B := s₁.setTop (mkF m 0 #[.val (.ref a)] [])) (fun _ kk' => castTop (ef_u_cod m a) kk') ?_
  obtain ⟨T1, X1, e1, st1⟩ := getS2 X0 hx hZ hown (host := "") (Or.inl (wd 47 rfl)) Via.refl e0 (SC.ext O.2) (g := (mkF m 0 #[.val (.ref a)] [])) rfl (hb hby d10_0)
  refine go_of (B := (T1.setTop (mkF m 3 #[.val (.ref a)] [(.int gC)]))) (st1) ?_
  refine go_of (B := (T1.setTop (mkF m 7 #[.val (.ref a)] [(.ref a)]))) (fun _ kk => XS.ifNo X1.here hx rfl (hb hby d10_3) rfl ((if0 _ _).trans (feq hgC).1) (XS.aloadN X1.here hx rfl (hb hby d10_6) rfl rfl kk)) ?_
  obtain ⟨T2, X2, e2, st2⟩ := getF X1 hx hZ hown (host := "") (Or.inl (wd 27 rfl)) Via.refl e1 Fc (g := (mkF m 7 #[.val (.ref a)] [(.ref a)])) rfl rfl (hb hby d10_7)
  refine go_of (B := (T2.setTop (mkF m 10 #[.val (.ref a)] [(.int (1 : Int32))]))) (st2) ?_
  refine go_of (B := (T2.setTop (mkF m 14 #[.val (.ref a)] [(.int (1 : Int32))]))) (fun _ kk => XS.goto X2.here hx rfl (pc0 := 10) (pc' := 14) rfl (hb hby d10_10) (by decide) (by decide) kk) ?_
  refine go_end X2 (v := some (.int (nar .byte (1 : Int32)))) (fun h => by rw [Bd.returns] at h; cases h) Bd.notSynchronized (by decide) (by decide) (Q := (Q_u_cod Z a gC h0 n0)) ?_ (fun fs hr => retN X2 hx (t := .byte) Bd.returns (by simp) (hb hby d10_14) hr)
  unfold Q_u_cod
  try rw [e2]
  exact ⟨rfl, N0, rfl⟩
theorem d9_0 : decode jdk_42_method_54_code 0 = .ok (.aload_n 0, 1) := by decide +kernel
theorem d9_1 : decode jdk_42_method_54_code 1 = .ok (.getfield 9, 3) := by decide +kernel
theorem d9_4 : decode jdk_42_method_54_code 4 = .ok (.arraylength, 1) := by decide +kernel
theorem d9_5 : decode jdk_42_method_54_code 5 = .ok (.aload_n 0, 1) := by decide +kernel
theorem d9_6 : decode jdk_42_method_54_code 6 = .ok (.invokevirtual 335, 3) := by decide +kernel
theorem pd___B : parseMethodDescriptor "()B" = some ⟨[], some .byte⟩ := by decide +kernel
theorem d9_9 : decode jdk_42_method_54_code 9 = .ok (.ishr, 1) := by decide +kernel
theorem d9_10 : decode jdk_42_method_54_code 10 = .ok (.ireturn, 1) := by decide +kernel
def Q_u_lenl (Z : State) (a : Addr) (nn : Int32) (mm : Int32) (cs : List Int32) (gC : Int32) (h0 : Heap) (n0 : Nat) (v : Option Value) (h : Heap) (L : List Loc) : Prop := v = some (.int nn) ∧ Fr n0 L ∧ h = h0
theorem ef_u_lenl (m : MethodId) (a : Addr)  : entryFrame m #[(.ref a)] 1 = mkF m 0 #[.val (.ref a)] [] := by first | (simp [entryFrame, mkF, argsToLocals, Value.category]; done) | rfl
theorem u_lenl (l : Launch) (Z : State) (a0 : Array Value) (hw : TW a0 Z) (ws : List Cond) (a : Addr) (nn : Int32) (mm : Int32) (cs : List Int32) (gC : Int32) (h0 : Heap) (n0 : Nat) (Z0 : n0 ≤ h0.size) (O : Old Z n0 h0) (SC : Sta Z Z.heap "java/lang/String" "COMPACT_STRINGS" "Z" (.int gC)) (hgC : ¬ gC = (0 : Int32)) (S : Str Z h0 a nn cs) (hsh : mm >>> ((1 : Int32) &&& 31) = nn) :
    own_MF l Z MN11 jdk_42_method_54_code 1 (some .int) ws (own_R 1 0 0 13) #[(.ref a)] h0 (Q_u_lenl Z a nn mm cs gC h0 n0) := by
  have wd := @own_wd _ _ hw
  refine MetFree.of_bodySF (plainFor_of_name pn_java_lang_String) hisR ?_
  intro p e s m args below meth c s₁ Bd hml0 hP hK
  obtain ⟨rfl, hZ, hh⟩ := hP
  have hx := Bd.exec
  have hby := Bd.bytes
  have hml : c.maxLocals = 1 := hml0
  have hown : s.vm.findClass "java/lang/String" = some m.cls := findClass_of_methodNamed Bd.named
  have hnm := (name_of_methodNamed Bd.named Bd.method).1
  have X0 : Stand p l e (own_R 1 0 0 13) s m #[(.ref a)] below meth c s₁ [] 0 0 := Stand.of_body Bd
  have e0 : s₁.heap = h0 := by rw [← hh, Bd.state]; rfl
  have N0 := Fr.nil n0
  obtain ⟨t, k, Ea, Fc, Fv, Va, hcs⟩ := id S
  have lta := own_nlt (Ea.lt)
  have ltt := own_nlt (Va.lt)
  refine go_of (A := s₁.setTop (entryFrame m #[(.ref a)] 1)) (B := s₁.setTop (mkF m 0 #[.val (.ref a)] [])) (fun _ kk' => castTop (ef_u_lenl m a) kk') ?_
  refine go_of (B := (s₁.setTop (mkF m 1 #[.val (.ref a)] [(.ref a)]))) (fun _ kk => XS.aloadN X0.here hx rfl (hb hby d9_0) rfl rfl kk) ?_
  obtain ⟨T1, X1, e1, st1⟩ := getF X0 hx hZ hown (host := "") (Or.inl (wd 26 rfl)) Via.refl e0 Fv (g := (mkF m 1 #[.val (.ref a)] [(.ref a)])) rfl rfl (hb hby d9_1)
  refine go_of (B := (T1.setTop (mkF m 4 #[.val (.ref a)] [(.ref t)]))) (st1) ?_
  obtain ⟨cl2, Ar2, q2, Sz2, Nn2, Hh2, G2⟩ := id (Va)
  have ln2 := len_of Sz2 Nn2
  refine go_of (B := (T1.setTop (mkF m 5 #[.val (.ref a)] [(.int nn)]))) (fun _ kk => X1.arraylength hx (by rw [e1]; exact Ar2.1) (State.isArrayOf_alike hZ.alike Ar2.2.1) (g := (mkF m 4 #[.val (.ref a)] [(.ref t)])) rfl rfl (hb hby d9_4) _ (by rw [ln2]; exact kk)) ?_
  refine go_of (B := (T1.setTop (mkF m 6 #[.val (.ref a)] [(.ref a), (.int nn)]))) (fun _ kk => XS.aloadN X1.here hx rfl (hb hby d9_5) rfl rfl kk) ?_
  obtain ⟨cq3, kq3, q3a, q3b, q3c⟩ := isOf hZ e1 Ea
  obtain ⟨_, _, ⟨T3, L3, k3, n3⟩, -, X3, ⟨Lc3, hQ3, l3, y3, z3⟩, st3⟩ := X1.virtualBack hx (y := MN7) (z := MN7) hown (mvT hZ (wd 53 rfl)) (mvT hZ (wd 54 rfl)) (notFace_of_selects (args := #[]) (mvT hZ (wd 56 rfl))) (mvT hZ (wd 56 rfl)) (mvT hZ (wd 55 rfl)) (by decide) (backOf (W := 1) (str_coder l Z a0 hw [] a gC h0 n0 Z0 O SC hgC Fc) hZ (wd 57 rfl) (wd 9 rfl) (by decide) (by decide)) q3a q3c (g := (mkF m 6 #[.val (.ref a)] [(.ref a), (.int nn)])) rfl (by rw [hml]; rfl) (Steps.refl _) (argsL := []) (rest := [(.int nn)]) (lenOf pd___B rfl) rfl (Nat.le_of_eq rfl) (hb hby d9_6) (fun _ _ => ⟨rfl, e1, (by decide : 0 + 0 ≤ _), (by decide : 0 + 0 ≤ _)⟩)
  dsimp only [Pt.U, Pt.locs, Pt.cells, Pt.slots] at X3 l3 y3 z3 st3 hQ3
  subst l3 y3 z3
  obtain ⟨rfl, N3q, e3⟩ := hQ3
  have N3 := Fr.app N0 N3q
  refine go_tr (B := (T3.setTop (mkF m 9 #[.val (.ref a)] [(.int (0 : Int32)), (.int nn)]))) (st3) ?_
  refine go_of (B := (T3.setTop (mkF m 10 #[.val (.ref a)] [(.int (nn >>> ((0 : Int32) &&& 31)))]))) (fun _ kk => XS.ishr X3.here hx rfl (hb hby d9_9) rfl kk) ?_
  refine go_end X3 (v := some (.int (nn >>> ((0 : Int32) &&& 31)))) (fun h => by rw [Bd.returns] at h; cases h) Bd.notSynchronized (by decide) (by decide) (Q := (Q_u_lenl Z a nn mm cs gC h0 n0)) ?_ (fun fs hr => own_retI X3 hx Bd.returns (hb hby d9_10) hr)
  unfold Q_u_lenl
  try rw [e3]
  refine ⟨?_, N3, rfl⟩
  rw [own_shr0]
def Q_u_lenw (Z : State) (a : Addr) (nn : Int32) (mm : Int32) (cs : List Int32) (gC : Int32) (h0 : Heap) (n0 : Nat) (v : Option Value) (h : Heap) (L : List Loc) : Prop := v = some (.int nn) ∧ Fr n0 L ∧ h = h0
theorem ef_u_lenw (m : MethodId) (a : Addr)  : entryFrame m #[(.ref a)] 1 = mkF m 0 #[.val (.ref a)] [] := by first | (simp [entryFrame, mkF, argsToLocals, Value.category]; done) | rfl
theorem u_lenw (l : Launch) (Z : State) (a0 : Array Value) (hw : TW a0 Z) (ws : List Cond) (a : Addr) (nn : Int32) (mm : Int32) (cs : List Int32) (gC : Int32) (h0 : Heap) (n0 : Nat) (Z0 : n0 ≤ h0.size) (O : Old Z n0 h0) (SC : Sta Z Z.heap "java/lang/String" "COMPACT_STRINGS" "Z" (.int gC)) (hgC : ¬ gC = (0 : Int32)) (S : StrW Z h0 a mm cs) (hsh : mm >>> ((1 : Int32) &&& 31) = nn) :
    own_MF l Z MN11 jdk_42_method_54_code 1 (some .int) ws (own_R 1 0 0 13) #[(.ref a)] h0 (Q_u_lenw Z a nn mm cs gC h0 n0) := by
  have wd := @own_wd _ _ hw
  refine MetFree.of_bodySF (plainFor_of_name pn_java_lang_String) hisR ?_
  intro p e s m args below meth c s₁ Bd hml0 hP hK
  obtain ⟨rfl, hZ, hh⟩ := hP
  have hx := Bd.exec
  have hby := Bd.bytes
  have hml : c.maxLocals = 1 := hml0
  have hown : s.vm.findClass "java/lang/String" = some m.cls := findClass_of_methodNamed Bd.named
  have hnm := (name_of_methodNamed Bd.named Bd.method).1
  have X0 : Stand p l e (own_R 1 0 0 13) s m #[(.ref a)] below meth c s₁ [] 0 0 := Stand.of_body Bd
  have e0 : s₁.heap = h0 := by rw [← hh, Bd.state]; rfl
  have N0 := Fr.nil n0
  obtain ⟨t, k, Ea, Fc, Fv, Va, hcs⟩ := id S
  have lta := own_nlt (Ea.lt)
  have ltt := own_nlt (Va.lt)
  refine go_of (A := s₁.setTop (entryFrame m #[(.ref a)] 1)) (B := s₁.setTop (mkF m 0 #[.val (.ref a)] [])) (fun _ kk' => castTop (ef_u_lenw m a) kk') ?_
  refine go_of (B := (s₁.setTop (mkF m 1 #[.val (.ref a)] [(.ref a)]))) (fun _ kk => XS.aloadN X0.here hx rfl (hb hby d9_0) rfl rfl kk) ?_
  obtain ⟨T1, X1, e1, st1⟩ := getF X0 hx hZ hown (host := "") (Or.inl (wd 26 rfl)) Via.refl e0 Fv (g := (mkF m 1 #[.val (.ref a)] [(.ref a)])) rfl rfl (hb hby d9_1)
  refine go_of (B := (T1.setTop (mkF m 4 #[.val (.ref a)] [(.ref t)]))) (st1) ?_
  obtain ⟨cl2, Ar2, q2, Sz2, Nn2, Hh2, G2⟩ := id (Va)
  have ln2 := len_of Sz2 Nn2
  refine go_of (B := (T1.setTop (mkF m 5 #[.val (.ref a)] [(.int mm)]))) (fun _ kk => X1.arraylength hx (by rw [e1]; exact Ar2.1) (State.isArrayOf_alike hZ.alike Ar2.2.1) (g := (mkF m 4 #[.val (.ref a)] [(.ref t)])) rfl rfl (hb hby d9_4) _ (by rw [ln2]; exact kk)) ?_
  refine go_of (B := (T1.setTop (mkF m 6 #[.val (.ref a)] [(.ref a), (.int mm)]))) (fun _ kk => XS.aloadN X1.here hx rfl (hb hby d9_5) rfl rfl kk) ?_
  obtain ⟨cq3, kq3, q3a, q3b, q3c⟩ := isOf hZ e1 Ea
  obtain ⟨_, _, ⟨T3, L3, k3, n3⟩, -, X3, ⟨Lc3, hQ3, l3, y3, z3⟩, st3⟩ := X1.virtualBack hx (y := MN7) (z := MN7) hown (mvT hZ (wd 53 rfl)) (mvT hZ (wd 54 rfl)) (notFace_of_selects (args := #[]) (mvT hZ (wd 56 rfl))) (mvT hZ (wd 56 rfl)) (mvT hZ (wd 55 rfl)) (by decide) (backOf (W := 1) (u_cod l Z a0 hw [] a gC h0 n0 Z0 O SC hgC Fc) hZ (wd 57 rfl) (wd 9 rfl) (by decide) (by decide)) q3a q3c (g := (mkF m 6 #[.val (.ref a)] [(.ref a), (.int mm)])) rfl (by rw [hml]; rfl) (Steps.refl _) (argsL := []) (rest := [(.int mm)]) (lenOf pd___B rfl) rfl (Nat.le_of_eq rfl) (hb hby d9_6) (fun _ _ => ⟨rfl, e1, (by decide : 0 + 0 ≤ _), (by decide : 0 + 0 ≤ _)⟩)
  dsimp only [Pt.U, Pt.locs, Pt.cells, Pt.slots] at X3 l3 y3 z3 st3 hQ3
  subst l3 y3 z3
  obtain ⟨rfl, N3q, e3⟩ := hQ3
  have N3 := Fr.app N0 N3q
  refine go_tr (B := (T3.setTop (mkF m 9 #[.val (.ref a)] [(.int (1 : Int32)), (.int mm)]))) (st3) ?_
  refine go_of (B := (T3.setTop (mkF m 10 #[.val (.ref a)] [(.int (mm >>> ((1 : Int32) &&& 31)))]))) (fun _ kk => XS.ishr X3.here hx rfl (hb hby d9_9) rfl kk) ?_
  refine go_end X3 (v := some (.int (mm >>> ((1 : Int32) &&& 31)))) (fun h => by rw [Bd.returns] at h; cases h) Bd.notSynchronized (by decide) (by decide) (Q := (Q_u_lenw Z a nn mm cs gC h0 n0)) ?_ (fun fs hr => own_retI X3 hx Bd.returns (hb hby d9_10) hr)
  unfold Q_u_lenw
  try rw [e3]
  refine ⟨?_, N3, rfl⟩
  rw [hsh]
theorem u_len (l : Launch) (Z : State) (a0 : Array Value) (hw : ∀ d ∈ tables_1, d.before a0 Z = true) (ws : List Cond) (a : Addr) (nn : Int32) (mm : Int32) (cs : List Int32) (gC : Int32) (h0 : Heap) (n0 : Nat) (Z0 : n0 ≤ h0.size) (O : Old Z n0 h0) (SC : Sta Z Z.heap "java/lang/String" "COMPACT_STRINGS" "Z" (.int gC)) (hgC : ¬ gC = (0 : Int32)) (S : StrU Z h0 a nn mm cs) (hsh : mm >>> ((1 : Int32) &&& 31) = nn) :
    MetFree l MN11 (head1 (Jvm.Cond.code MN11 jdk_42_method_54_code 1 (some .int) :: ws) (own_R 1 0 0 13)) (fun aa' U1' => aa' = #[(.ref a)] ∧ Z.Warmed39 U1'.vm ∧ U1'.heap = h0) (fun _ _ _ _ _ => True) (fun _ U1' oo' U2' => ∃ vv' LL', oo' = .returned vv' ∧ (Q_u_lenl Z a  nn mm cs gC  h0 n0) vv' U2'.heap LL' ∧ FrameEnd U1' oo' U2' LL' (own_R 1 0 0 13).cells (own_R 1 0 0 13).slots) := by
  rcases S with S | S
  · exact u_lenl l Z a0 hw ws a nn mm cs gC h0 n0 Z0 O SC hgC S hsh
  · exact u_lenw l Z a0 hw ws a nn mm cs gC h0 n0 Z0 O SC hgC S hsh
def Q_str_len_0 (Z : State) (a : Addr) (gC : Int32) (h0 : Heap) (n0 : Nat) (v : Option Value) (h : Heap) (L : List Loc) : Prop := v = some (.int 0) ∧ Fr n0 L ∧ h = h0
theorem ef_str_len_0 (m : MethodId) (a : Addr)  : entryFrame m #[(.ref a)] 1 = mkF m 0 #[.val (.ref a)] [] := by first | (simp [entryFrame, mkF, argsToLocals, Value.category]; done) | rfl
theorem str_len_0 (l : Launch) (Z : State) (a0 : Array Value) (hw : TW a0 Z) (ws : List Cond) (a : Addr) (gC : Int32) (h0 : Heap) (n0 : Nat) (Z0 : n0 ≤ h0.size) (O : Old Z n0 h0) (SC : Sta Z Z.heap "java/lang/String" "COMPACT_STRINGS" "Z" (.int gC)) (hgC : ¬ gC = (0 : Int32)) (S : Str Z h0 a 0 []) :
    own_MF l Z MN11 jdk_42_method_54_code 1 (some .int) ws (own_R 1 0 0 13) #[(.ref a)] h0 (Q_str_len_0 Z a gC h0 n0) := by
  have wd := @own_wd _ _ hw
  refine MetFree.of_bodySF (plainFor_of_name pn_java_lang_String) hisR ?_
  intro p e s m args below meth c s₁ Bd hml0 hP hK
  obtain ⟨rfl, hZ, hh⟩ := hP
  have hx := Bd.exec
  have hby := Bd.bytes
  have hml : c.maxLocals = 1 := hml0
  have hown : s.vm.findClass "java/lang/String" = some m.cls := findClass_of_methodNamed Bd.named
  have hnm := (name_of_methodNamed Bd.named Bd.method).1
  have X0 : Stand p l e (own_R 1 0 0 13) s m #[(.ref a)] below meth c s₁ [] 0 0 := Stand.of_body Bd
  have e0 : s₁.heap = h0 := by rw [← hh, Bd.state]; rfl
  have N0 := Fr.nil n0
  obtain ⟨t, k, Ea, Fc, Fv, Va, hcs⟩ := S
  have lta := own_nlt (Ea.lt)
  have ltt := own_nlt (Va.lt)
  refine go_of (A := s₁.setTop (entryFrame m #[(.ref a)] 1)) (B := s₁.setTop (mkF m 0 #[.val (.ref a)] [])) (fun _ kk' => castTop (ef_str_len_0 m a) kk') ?_
  refine go_of (B := (s₁.setTop (mkF m 1 #[.val (.ref a)] [(.ref a)]))) (fun _ kk => XS.aloadN X0.here hx rfl (hb hby d9_0) rfl rfl kk) ?_
  obtain ⟨T1, X1, e1, st1⟩ := getF X0 hx hZ hown (host := "") (Or.inl (wd 26 rfl)) Via.refl e0 Fv (g := (mkF m 1 #[.val (.ref a)] [(.ref a)])) rfl rfl (hb hby d9_1)
  refine go_of (B := (T1.setTop (mkF m 4 #[.val (.ref a)] [(.ref t)]))) (st1) ?_
  obtain ⟨cl2, Ar2, q2, Sz2, Nn2, Hh2, G2⟩ := id (Va)
  have ln2 := len_of Sz2 Nn2
  refine go_of (B := (T1.setTop (mkF m 5 #[.val (.ref a)] [(.int (0 : Int32))]))) (fun _ kk => X1.arraylength hx (by rw [e1]; exact Ar2.1) (State.isArrayOf_alike hZ.alike Ar2.2.1) (g := (mkF m 4 #[.val (.ref a)] [(.ref t)])) rfl rfl (hb hby d9_4) _ (by rw [ln2]; exact kk)) ?_
  refine go_of (B := (T1.setTop (mkF m 6 #[.val (.ref a)] [(.ref a), (.int (0 : Int32))]))) (fun _ kk => XS.aloadN X1.here hx rfl (hb hby d9_5) rfl rfl kk) ?_
  obtain ⟨cq3, kq3, q3a, q3b, q3c⟩ := isOf hZ e1 Ea
  obtain ⟨_, _, ⟨T3, L3, k3, n3⟩, -, X3, ⟨Lc3, hQ3, l3, y3, z3⟩, st3⟩ := X1.virtualBack hx (y := MN7) (z := MN7) hown (mvT hZ (wd 53 rfl)) (mvT hZ (wd 54 rfl)) (notFace_of_selects (args := #[]) (mvT hZ (wd 56 rfl))) (mvT hZ (wd 56 rfl)) (mvT hZ (wd 55 rfl)) (by decide) (backOf (W := 1) (str_coder l Z a0 hw [] a gC h0 n0 Z0 O SC hgC Fc) hZ (wd 57 rfl) (wd 9 rfl) (by decide) (by decide)) q3a q3c (g := (mkF m 6 #[.val (.ref a)] [(.ref a), (.int (0 : Int32))])) rfl (by rw [hml]; rfl) (Steps.refl _) (argsL := []) (rest := [(.int (0 : Int32))]) (lenOf pd___B rfl) rfl (Nat.le_of_eq rfl) (hb hby d9_6) (fun _ _ => ⟨rfl, e1, (by decide : 0 + 0 ≤ _), (by decide : 0 + 0 ≤ _)⟩)
  dsimp only [Pt.U, Pt.locs, Pt.cells, Pt.slots] at X3 l3 y3 z3 st3 hQ3
  subst l3 y3 z3
  obtain ⟨rfl, N3q, e3⟩ := hQ3
  have N3 := Fr.app N0 N3q
  refine go_tr (B := (T3.setTop (mkF m 9 #[.val (.ref a)] [(.int (0 : Int32)), (.int (0 : Int32))]))) (st3) ?_
  refine go_of (B := (T3.setTop (mkF m 10 #[.val (.ref a)] [(.int (0 : Int32))]))) (fun _ kk => XS.ishr X3.here hx rfl (hb hby d9_9) rfl kk) ?_
  refine go_end X3 (v := some (.int (0 : Int32))) (fun h => by rw [Bd.returns] at h; cases h) Bd.notSynchronized (by decide) (by decide) (Q := (Q_str_len_0 Z a gC h0 n0)) ?_ (fun fs hr => own_retI X3 hx Bd.returns (hb hby d9_10) hr)
  unfold Q_str_len_0
  try rw [e3]
  exact ⟨rfl, N3, rfl⟩
theorem d7_0 : decode jdk_42_method_80_code 0 = .ok (.aload_n 0, 1) := by decide +kernel
theorem d7_1 : decode jdk_42_method_80_code 1 = .ok (.invokevirtual 492, 3) := by decide +kernel
theorem pd___Z : parseMethodDescriptor "()Z" = some ⟨[], some .boolean⟩ := by decide +kernel
theorem d7_4 : decode jdk_42_method_80_code 4 = .ok (.ifCond .eq 19, 3) := by decide +kernel
theorem d7_7 : decode jdk_42_method_80_code 7 = .ok (.aload_n 0, 1) := by decide +kernel
theorem d7_8 : decode jdk_42_method_80_code 8 = .ok (.getfield 9, 3) := by decide +kernel
theorem d7_11 : decode jdk_42_method_80_code 11 = .ok (.iload_n 1, 1) := by decide +kernel
theorem d7_12 : decode jdk_42_method_80_code 12 = .ok (.iload_n 2, 1) := by decide +kernel
theorem d7_13 : decode jdk_42_method_80_code 13 = .ok (.aload_n 0, 1) := by decide +kernel
theorem d7_14 : decode jdk_42_method_80_code 14 = .ok (.invokevirtual 505, 3) := by decide +kernel
theorem pd___I : parseMethodDescriptor "()I" = some ⟨[], some .int⟩ := by decide +kernel
theorem d7_17 : decode jdk_42_method_80_code 17 = .ok (.invokestatic 637, 3) := by decide +kernel
theorem pd___BIII_I : parseMethodDescriptor "([BIII)I" = some ⟨[(.array .byte), .int, .int, .int], some .int⟩ := by decide +kernel
theorem d7_20 : decode jdk_42_method_80_code 20 = .ok (.goto 16, 3) := by decide +kernel
theorem d7_36 : decode jdk_42_method_80_code 36 = .ok (.ireturn, 1) := by decide +kernel
def Q_si2l_0 (Z : State) (a : Addr) (wc : Int32) (gC : Int32) (gF : Value) (h0 : Heap) (n0 : Nat) (v : Option Value) (h : Heap) (L : List Loc) : Prop := ∃ r : Int32, v = some (.int r) ∧ (r < 0 ↔ own_hs wc [] = false) ∧ Fr n0 L ∧ h = h0
theorem ef_si2l_0 (m : MethodId) (a : Addr) (wc : Int32)  : entryFrame m #[(.ref a), (.int wc), (.int (0 : Int32))] 3 = mkF m 0 #[.val (.ref a), .val (.int wc), .val (.int (0 : Int32))] [] := by first | (simp [entryFrame, mkF, argsToLocals, Value.category]; done) | rfl
theorem si2l_0 (l : Launch) (Z : State) (a0 : Array Value) (hw : TW a0 Z) (ws : List Cond) (a : Addr) (wc : Int32) (gC : Int32) (gF : Value) (h0 : Heap) (n0 : Nat) (Z0 : n0 ≤ h0.size) (O : Old Z n0 h0) (SC : Sta Z Z.heap "java/lang/String" "COMPACT_STRINGS" "Z" (.int gC)) (hgC : ¬ gC = (0 : Int32)) (S : Str Z h0 a 0 []) (SU : US Z) (SF : Sta Z Z.heap "jdk/internal/util/Preconditions" "SIOOBE_FORMATTER" "Ljava/util/function/BiFunction;" gF) (rgF : gF.isRef = true) (hwc : ¬ wc < 0 ∧ ¬ (255 : Int32) < wc) :
    own_MF l Z MN9 jdk_42_method_80_code 3 (some .int) ws (own_R 2 0 0 28) #[(.ref a), (.int wc), (.int (0 : Int32))] h0 (Q_si2l_0 Z a wc gC gF h0 n0) := by
  have wd := @own_wd _ _ hw
  refine MetFree.of_bodySF (plainFor_of_name pn_java_lang_String) hisR ?_
  intro p e s m args below meth c s₁ Bd hml0 hP hK
  obtain ⟨rfl, hZ, hh⟩ := hP
  have hx := Bd.exec
  have hby := Bd.bytes
  have hml : c.maxLocals = 3 := hml0
  have hown : s.vm.findClass "java/lang/String" = some m.cls := findClass_of_methodNamed Bd.named
  have hnm := (name_of_methodNamed Bd.named Bd.method).1
  have X0 : Stand p l e (own_R 2 0 0 28) s m #[(.ref a), (.int wc), (.int (0 : Int32))] below meth c s₁ [] 0 0 := Stand.of_body Bd
  have e0 : s₁.heap = h0 := by rw [← hh, Bd.state]; rfl
  have N0 := Fr.nil n0
  obtain ⟨t, k, Ea, Fc, Fv, Va, hcs⟩ := (id S)
  have lta := own_nlt (Ea.lt)
  have ltt := own_nlt (Va.lt)
  refine go_of (A := s₁.setTop (entryFrame m #[(.ref a), (.int wc), (.int (0 : Int32))] 3)) (B := s₁.setTop (mkF m 0 #[.val (.ref a), .val (.int wc), .val (.int (0 : Int32))] [])) (fun _ kk' => castTop (ef_si2l_0 m a wc) kk') ?_
  refine go_of (B := (s₁.setTop (mkF m 1 #[.val (.ref a), .val (.int wc), .val (.int (0 : Int32))] [(.ref a)]))) (fun _ kk => XS.aloadN X0.here hx rfl (hb hby d7_0) rfl rfl kk) ?_
  obtain ⟨cq1, kq1, q1a, q1b, q1c⟩ := isOf hZ e0 Ea
  obtain ⟨_, _, ⟨T1, L1, k1, n1⟩, -, X1, ⟨Lc1, hQ1, l1, y1, z1⟩, st1⟩ := X0.virtualBack hx (y := MN10) (z := MN10) hown (mvT hZ (wd 42 rfl)) (mvT hZ (wd 43 rfl)) (notFace_of_selects (args := #[]) (mvT hZ (wd 45 rfl))) (mvT hZ (wd 45 rfl)) (mvT hZ (wd 44 rfl)) (by decide) (backOf (W := 0) (str_latin l Z a0 hw [] a gC h0 n0 (by omega) O SC hgC Fc) hZ (wd 46 rfl) (wd 9 rfl) (by decide) (by decide)) q1a q1c (g := (mkF m 1 #[.val (.ref a), .val (.int wc), .val (.int (0 : Int32))] [(.ref a)])) rfl (by rw [hml]; rfl) (Steps.refl _) (argsL := []) (rest := []) (lenOf pd___Z rfl) rfl (Nat.le_of_eq rfl) (hb hby d7_1) (fun _ _ => ⟨rfl, e0, (by decide : 0 + 0 ≤ _), (by decide : 0 + 0 ≤ _)⟩)
  dsimp only [Pt.U, Pt.locs, Pt.cells, Pt.slots] at X1 l1 y1 z1 st1 hQ1
  subst l1 y1 z1
  obtain ⟨rfl, N1q, e1⟩ := hQ1
  have N1 := Fr.app N0 N1q
  refine go_tr (B := (T1.setTop (mkF m 4 #[.val (.ref a), .val (.int wc), .val (.int (0 : Int32))] [(.int (1 : Int32))]))) (st1) ?_
  refine go_of (B := (T1.setTop (mkF m 8 #[.val (.ref a), .val (.int wc), .val (.int (0 : Int32))] [(.ref a)]))) (fun _ kk => XS.ifNo X1.here hx rfl (hb hby d7_4) rfl ((if0 _ _).trans (feq (by decide : ¬ ((1 : Int32) = (0 : Int32)))).1) (XS.aloadN X1.here hx rfl (hb hby d7_7) rfl rfl kk)) ?_
  obtain ⟨T2, X2, e2, st2⟩ := getF X1 hx hZ hown (host := "") (Or.inl (wd 26 rfl)) Via.refl e1 Fv (g := (mkF m 8 #[.val (.ref a), .val (.int wc), .val (.int (0 : Int32))] [(.ref a)])) rfl rfl (hb hby d7_8)
  refine go_of (B := (T2.setTop (mkF m 11 #[.val (.ref a), .val (.int wc), .val (.int (0 : Int32))] [(.ref t)]))) (st2) ?_
  refine go_of (B := (T2.setTop (mkF m 14 #[.val (.ref a), .val (.int wc), .val (.int (0 : Int32))] [(.ref a), (.int (0 : Int32)), (.int wc), (.ref t)]))) (fun _ kk => XS.iloadN X2.here hx rfl (hb hby d7_11) rfl (XS.iloadN X2.here hx rfl (hb hby d7_12) rfl (XS.aloadN X2.here hx rfl (hb hby d7_13) rfl rfl kk))) ?_
  obtain ⟨cq3, kq3, q3a, q3b, q3c⟩ := isOf hZ e2 Ea
  obtain ⟨_, _, ⟨T3, L3, k3, n3⟩, -, X3, ⟨Lc3, hQ3, l3, y3, z3⟩, st3⟩ := X2.virtualBack hx (y := MN11) (z := MN11) hown (mvT hZ (wd 48 rfl)) (mvT hZ (wd 49 rfl)) (notFace_of_selects (args := #[]) (mvT hZ (wd 51 rfl))) (mvT hZ (wd 51 rfl)) (mvT hZ (wd 50 rfl)) (by decide) (backOf (W := 3) (str_len_0 l Z a0 hw [] a gC h0 n0 (by omega) O SC hgC S) hZ (wd 52 rfl) (wd 9 rfl) (by decide) (by decide)) q3a q3c (g := (mkF m 14 #[.val (.ref a), .val (.int wc), .val (.int (0 : Int32))] [(.ref a), (.int (0 : Int32)), (.int wc), (.ref t)])) rfl (by rw [hml]; rfl) (Steps.refl _) (argsL := []) (rest := [(.int (0 : Int32)), (.int wc), (.ref t)]) (lenOf pd___I rfl) rfl (Nat.le_of_eq rfl) (hb hby d7_14) (fun _ _ => ⟨rfl, e2, (by decide : 0 + 0 ≤ _), (by decide : 0 + 0 ≤ _)⟩)
  dsimp only [Pt.U, Pt.locs, Pt.cells, Pt.slots] at X3 l3 y3 z3 st3 hQ3
  subst l3 y3 z3
  obtain ⟨rfl, N3q, e3⟩ := hQ3
  have N3 := Fr.app N1 N3q
  refine go_tr (B := (T3.setTop (mkF m 17 #[.val (.ref a), .val (.int wc), .val (.int (0 : Int32))] [(.int (0 : Int32)), (.int (0 : Int32)), (.int wc), (.ref t)]))) (st3) ?_
  obtain ⟨_, _, ⟨T4, L4, k4, n4⟩, -, X4, ⟨Lc4, hQ4, l4, y4, z4⟩, st4⟩ := Jvm.LawKit.callS X3 hx (y := MN13) hown (mvT hZ (wd 58 rfl)) (mvT hZ (wd 59 rfl)) (mvT hZ (wd 60 rfl)) (mvT hZ (wd 61 rfl)) (by decide) (backOf (W := 0) (lio_0 l Z a0 hw [] t wc  k h0 n0 (by omega) Va hwc) hZ (wd 61 rfl) (wd 60 rfl) (by decide) (by decide)) (g := (mkF m 17 #[.val (.ref a), .val (.int wc), .val (.int (0 : Int32))] [(.int (0 : Int32)), (.int (0 : Int32)), (.int wc), (.ref t)])) rfl (by rw [hml]; rfl) (argsL := [(.ref t), (.int wc), (.int (0 : Int32)), (.int (0 : Int32))]) (rest := []) (lenOf pd___BIII_I rfl) rfl (Nat.le_of_eq rfl) (hb hby d7_17) (fun _ _ => ⟨rfl, e3, (by decide : 0 + 0 ≤ _), (by decide : 0 + 0 ≤ _)⟩)
  dsimp only [Pt.U, Pt.locs, Pt.cells, Pt.slots] at X4 l4 y4 z4 st4 hQ4
  subst l4 y4 z4
  obtain ⟨r4, rfl, hr4, N4q, e4⟩ := hQ4
  have N4 := Fr.app N3 N4q
  refine go_of (B := (T4.setTop (mkF m 20 #[.val (.ref a), .val (.int wc), .val (.int (0 : Int32))] [(.int r4)]))) (st4) ?_
  refine go_of (B := (T4.setTop (mkF m 36 #[.val (.ref a), .val (.int wc), .val (.int (0 : Int32))] [(.int r4)]))) (fun _ kk => XS.goto X4.here hx rfl (pc0 := 20) (pc' := 36) rfl (hb hby d7_20) (by decide) (by decide) kk) ?_
  refine go_end X4 (v := some (.int r4)) (fun h => by rw [Bd.returns] at h; cases h) Bd.notSynchronized (by decide) (by decide) (Q := (Q_si2l_0 Z a wc gC gF h0 n0)) ?_ (fun fs hr => own_retI X4 hx Bd.returns (hb hby d7_36) hr)
  unfold Q_si2l_0
  try rw [e4]
  exact ⟨_, rfl, hr4.trans (iff_of_eq (congrArg (fun b => b = false) (own_hsb wc hwc [] hcs))), N4, rfl⟩
theorem d6_0 : decode jdk_42_method_79_code 0 = .ok (.aload_n 0, 1) := by decide +kernel
theorem d6_1 : decode jdk_42_method_79_code 1 = .ok (.iload_n 1, 1) := by decide +kernel
theorem d6_2 : decode jdk_42_method_79_code 2 = .ok (.iconst 0, 1) := by decide +kernel
theorem d6_3 : decode jdk_42_method_79_code 3 = .ok (.invokevirtual 633, 3) := by decide +kernel
theorem d6_6 : decode jdk_42_method_79_code 6 = .ok (.ireturn, 1) := by decide +kernel
def Q_si_0 (Z : State) (a : Addr) (wc : Int32) (gC : Int32) (gF : Value) (h0 : Heap) (n0 : Nat) (v : Option Value) (h : Heap) (L : List Loc) : Prop := ∃ r : Int32, v = some (.int r) ∧ (r < 0 ↔ own_hs wc [] = false) ∧ Fr n0 L ∧ h = h0
theorem ef_si_0 (m : MethodId) (a : Addr) (wc : Int32)  : entryFrame m #[(.ref a), (.int wc)] 2 = mkF m 0 #[.val (.ref a), .val (.int wc)] [] := by first | (simp [entryFrame, mkF, argsToLocals, Value.category]; done) | rfl
theorem si_0 (l : Launch) (Z : State) (a0 : Array Value) (hw : TW a0 Z) (ws : List Cond) (a : Addr) (wc : Int32) (gC : Int32) (gF : Value) (h0 : Heap) (n0 : Nat) (Z0 : n0 ≤ h0.size) (O : Old Z n0 h0) (SC : Sta Z Z.heap "java/lang/String" "COMPACT_STRINGS" "Z" (.int gC)) (hgC : ¬ gC = (0 : Int32)) (S : Str Z h0 a 0 []) (SU : US Z) (SF : Sta Z Z.heap "jdk/internal/util/Preconditions" "SIOOBE_FORMATTER" "Ljava/util/function/BiFunction;" gF) (rgF : gF.isRef = true) (hwc : ¬ wc < 0 ∧ ¬ (255 : Int32) < wc) :
    own_MF l Z MN8 jdk_42_method_79_code 2 (some .int) ws (own_R 3 0 0 42) #[(.ref a), (.int wc)] h0 (Q_si_0 Z a wc gC gF h0 n0) := by
  have wd := @own_wd _ _ hw
  refine MetFree.of_bodySF (plainFor_of_name pn_java_lang_String) hisR ?_
  intro p e s m args below meth c s₁ Bd hml0 hP hK
  obtain ⟨rfl, hZ, hh⟩ := hP
  have hx := Bd.exec
  have hby := Bd.bytes
  have hml : c.maxLocals = 2 := hml0
  have hown : s.vm.findClass "java/lang/String" = some m.cls := findClass_of_methodNamed Bd.named
  have hnm := (name_of_methodNamed Bd.named Bd.method).1
  have X0 : Stand p l e (own_R 3 0 0 42) s m #[(.ref a), (.int wc)] below meth c s₁ [] 0 0 := Stand.of_body Bd
  have e0 : s₁.heap = h0 := by rw [← hh, Bd.state]; rfl
  have N0 := Fr.nil n0
  refine go_of (A := s₁.setTop (entryFrame m #[(.ref a), (.int wc)] 2)) (B := s₁.setTop (mkF m 0 #[.val (.ref a), .val (.int wc)] [])) (fun _ kk' => castTop (ef_si_0 m a wc) kk') ?_
  refine go_of (B := (s₁.setTop (mkF m 3 #[.val (.ref a), .val (.int wc)] [(.int (0 : Int32)), (.int wc), (.ref a)]))) (fun _ kk => XS.aloadN X0.here hx rfl (hb hby d6_0) rfl rfl (XS.iloadN X0.here hx rfl (hb hby d6_1) rfl (XS.iconst X0.here hx rfl (hb hby d6_2) kk))) ?_
  obtain ⟨cq1, kq1, q1a, q1b, q1c⟩ := isOf hZ e0 S.exa
  obtain ⟨_, _, ⟨T1, L1, k1, n1⟩, -, X1, ⟨Lc1, hQ1, l1, y1, z1⟩, st1⟩ := X0.virtualBack hx (y := MN9) (z := MN9) hown (mvT hZ (wd 37 rfl)) (mvT hZ (wd 38 rfl)) (notFace_of_selects (args := #[]) (mvT hZ (wd 40 rfl))) (mvT hZ (wd 40 rfl)) (mvT hZ (wd 39 rfl)) (by decide) (backOf (W := 0) (si2l_0 l Z a0 hw [] a wc  gC gF h0 n0 (by omega) O SC hgC S SU SF rgF hwc) hZ (wd 41 rfl) (wd 9 rfl) (by decide) (by decide)) q1a q1c (g := (mkF m 3 #[.val (.ref a), .val (.int wc)] [(.int (0 : Int32)), (.int wc), (.ref a)])) rfl (by rw [hml]; rfl) (Steps.refl _) (argsL := [(.int wc), (.int (0 : Int32))]) (rest := []) (lenOf pd__II_I rfl) rfl (Nat.le_of_eq rfl) (hb hby d6_3) (fun _ _ => ⟨rfl, e0, (by decide : 0 + 0 ≤ _), (by decide : 0 + 0 ≤ _)⟩)
  dsimp only [Pt.U, Pt.locs, Pt.cells, Pt.slots] at X1 l1 y1 z1 st1 hQ1
  subst l1 y1 z1
  obtain ⟨r1, rfl, hr1, N1q, e1⟩ := hQ1
  have N1 := Fr.app N0 N1q
  refine go_tr (B := (T1.setTop (mkF m 6 #[.val (.ref a), .val (.int wc)] [(.int r1)]))) (st1) ?_
  refine go_end X1 (v := some (.int r1)) (fun h => by rw [Bd.returns] at h; cases h) Bd.notSynchronized (by decide) (by decide) (Q := (Q_si_0 Z a wc gC gF h0 n0)) ?_ (fun fs hr => own_retI X1 hx Bd.returns (hb hby d6_6) hr)
  unfold Q_si_0
  try rw [e1]
  exact ⟨_, rfl, hr1, N1, rfl⟩
theorem d5_0 : decode prog_12_method_3_code 0 = .ok (.aload_n 0, 1) := by decide +kernel
theorem d5_1 : decode prog_12_method_3_code 1 = .ok (.bipush 42, 2) := by decide +kernel
theorem d5_3 : decode prog_12_method_3_code 3 = .ok (.invokevirtual 26, 3) := by decide +kernel
theorem pd__I_I : parseMethodDescriptor "(I)I" = some ⟨[.int], some .int⟩ := by decide +kernel
theorem d5_6 : decode prog_12_method_3_code 6 = .ok (.ifCond .ge 16, 3) := by decide +kernel
theorem d5_9 : decode prog_12_method_3_code 9 = .ok (.aload_n 0, 1) := by decide +kernel
theorem d5_10 : decode prog_12_method_3_code 10 = .ok (.bipush 63, 2) := by decide +kernel
theorem d5_12 : decode prog_12_method_3_code 12 = .ok (.invokevirtual 26, 3) := by decide +kernel
theorem d5_15 : decode prog_12_method_3_code 15 = .ok (.ifCond .ge 7, 3) := by decide +kernel
theorem d5_18 : decode prog_12_method_3_code 18 = .ok (.iconst 1, 1) := by decide +kernel
theorem d5_19 : decode prog_12_method_3_code 19 = .ok (.goto 4, 3) := by decide +kernel
theorem d5_23 : decode prog_12_method_3_code 23 = .ok (.ireturn, 1) := by decide +kernel
def Q_isl_0 (Z : State) (a : Addr) (gC : Int32) (gF : Value) (h0 : Heap) (n0 : Nat) (v : Option Value) (h : Heap) (L : List Loc) : Prop := v = some (.int (own_lit [])) ∧ Fr n0 L ∧ h = h0
theorem d5_22 : decode prog_12_method_3_code 22 = .ok (.iconst 0, 1) := by decide +kernel
theorem pn_com_example_grantline_grantline_Glob : plainName "com/example/grantline/grantline/Glob" = true := by first | (simp [plainName, overriddenIn]; done) | decide +kernel
theorem ef_isl_0 (m : MethodId) (a : Addr)  : entryFrame m #[(.ref a)] 1 = mkF m 0 #[.val (.ref a)] [] := by first | (simp [entryFrame, mkF, argsToLocals, Value.category]; done) | rfl
theorem isl_0 (l : Launch) (Z : State) (a0 : Array Value) (hw : TW a0 Z) (ws : List Cond) (a : Addr) (gC : Int32) (gF : Value) (h0 : Heap) (n0 : Nat) (Z0 : n0 ≤ h0.size) (O : Old Z n0 h0) (SC : Sta Z Z.heap "java/lang/String" "COMPACT_STRINGS" "Z" (.int gC)) (hgC : ¬ gC = (0 : Int32)) (S : Str Z h0 a 0 []) (SU : US Z) (SF : Sta Z Z.heap "jdk/internal/util/Preconditions" "SIOOBE_FORMATTER" "Ljava/util/function/BiFunction;" gF) (rgF : gF.isRef = true) :
    own_MF l Z MN0 prog_12_method_3_code 1 (some .boolean) ws (own_R 4 0 0 55) #[(.ref a)] h0 (Q_isl_0 Z a gC gF h0 n0) := by
  have wd := @own_wd _ _ hw
  refine MetFree.of_bodySF (plainFor_of_name pn_com_example_grantline_grantline_Glob) hisR ?_
  intro p e s m args below meth c s₁ Bd hml0 hP hK
  obtain ⟨rfl, hZ, hh⟩ := hP
  have hx := Bd.exec
  have hby := Bd.bytes
  have hml : c.maxLocals = 1 := hml0
  have hown : s.vm.findClass "com/example/grantline/grantline/Glob" = some m.cls := findClass_of_methodNamed Bd.named
  have hnm := (name_of_methodNamed Bd.named Bd.method).1
  have X0 : Stand p l e (own_R 4 0 0 55) s m #[(.ref a)] below meth c s₁ [] 0 0 := Stand.of_body Bd
  have e0 : s₁.heap = h0 := by rw [← hh, Bd.state]; rfl
  have N0 := Fr.nil n0
  refine go_of (A := s₁.setTop (entryFrame m #[(.ref a)] 1)) (B := s₁.setTop (mkF m 0 #[.val (.ref a)] [])) (fun _ kk' => castTop (ef_isl_0 m a) kk') ?_
  refine go_of (B := (s₁.setTop (mkF m 3 #[.val (.ref a)] [(.int (42 : Int32)), (.ref a)]))) (fun _ kk => XS.aloadN X0.here hx rfl (hb hby d5_0) rfl rfl (XS.bipush X0.here hx rfl (hb hby d5_1) kk)) ?_
  obtain ⟨cq1, kq1, q1a, q1b, q1c⟩ := isOf hZ e0 S.exa
  obtain ⟨_, _, ⟨T1, L1, k1, n1⟩, -, X1, ⟨Lc1, hQ1, l1, y1, z1⟩, st1⟩ := X0.virtualBack hx (y := MN8) (z := MN8) hown (mvT hZ (wd 32 rfl)) (mvT hZ (wd 33 rfl)) (notFace_of_selects (args := #[]) (mvT hZ (wd 35 rfl))) (mvT hZ (wd 35 rfl)) (mvT hZ (wd 34 rfl)) (by decide) (backOf (W := 0) (si_0 l Z a0 hw [] a (42 : Int32)  gC gF h0 n0 (by omega) O SC hgC S SU SF rgF (by decide)) hZ (wd 36 rfl) (wd 9 rfl) (by decide) (by decide)) q1a q1c (g := (mkF m 3 #[.val (.ref a)] [(.int (42 : Int32)), (.ref a)])) rfl (by rw [hml]; rfl) (Steps.refl _) (argsL := [(.int (42 : Int32))]) (rest := []) (lenOf pd__I_I rfl) rfl (Nat.le_of_eq rfl) (hb hby d5_3) (fun _ _ => ⟨rfl, e0, (by decide : 0 + 0 ≤ _), (by decide : 0 + 0 ≤ _)⟩)
  dsimp only [Pt.U, Pt.locs, Pt.cells, Pt.slots] at X1 l1 y1 z1 st1 hQ1
  subst l1 y1 z1
  obtain ⟨r1, rfl, hr1, N1q, e1⟩ := hQ1
  have N1 := Fr.app N0 N1q
  refine go_tr (B := (T1.setTop (mkF m 6 #[.val (.ref a)] [(.int r1)]))) (st1) ?_
  by_cases hcc2 : r1 < (0 : Int32)
  · refine go_of (B := (T1.setTop (mkF m 12 #[.val (.ref a)] [(.int (63 : Int32)), (.ref a)]))) (fun _ kk => XS.ifNo X1.here hx rfl (hb hby d5_6) rfl ((if0 _ _).trans (tlt hcc2).2.1) (XS.aloadN X1.here hx rfl (hb hby d5_9) rfl rfl (XS.bipush X1.here hx rfl (hb hby d5_10) kk))) ?_
    obtain ⟨cq3, kq3, q3a, q3b, q3c⟩ := isOf hZ e1 S.exa
    obtain ⟨_, _, ⟨T3, L3, k3, n3⟩, -, X3, ⟨Lc3, hQ3, l3, y3, z3⟩, st3⟩ := X1.virtualBack hx (y := MN8) (z := MN8) hown (mvT hZ (wd 32 rfl)) (mvT hZ (wd 33 rfl)) (notFace_of_selects (args := #[]) (mvT hZ (wd 35 rfl))) (mvT hZ (wd 35 rfl)) (mvT hZ (wd 34 rfl)) (by decide) (backOf (W := 0) (si_0 l Z a0 hw [] a (63 : Int32)  gC gF h0 n0 (by omega) O SC hgC S SU SF rgF (by decide)) hZ (wd 36 rfl) (wd 9 rfl) (by decide) (by decide)) q3a q3c (g := (mkF m 12 #[.val (.ref a)] [(.int (63 : Int32)), (.ref a)])) rfl (by rw [hml]; rfl) (Steps.refl _) (argsL := [(.int (63 : Int32))]) (rest := []) (lenOf pd__I_I rfl) rfl (Nat.le_of_eq rfl) (hb hby d5_12) (fun _ _ => ⟨rfl, e1, (by decide : 0 + 0 ≤ _), (by decide : 0 + 0 ≤ _)⟩)
    dsimp only [Pt.U, Pt.locs, Pt.cells, Pt.slots] at X3 l3 y3 z3 st3 hQ3
    subst l3 y3 z3
    obtain ⟨r3, rfl, hr3, N3q, e3⟩ := hQ3
    have N3 := Fr.app N1 N3q
    refine go_tr (B := (T3.setTop (mkF m 15 #[.val (.ref a)] [(.int r3)]))) (st3) ?_
    by_cases hcc4 : r3 < (0 : Int32)
    · refine go_of (B := (T3.setTop (mkF m 23 #[.val (.ref a)] [(.int (1 : Int32))]))) (fun _ kk => XS.ifNo X3.here hx rfl (hb hby d5_15) rfl ((if0 _ _).trans (tlt hcc4).2.1) (XS.iconst X3.here hx rfl (hb hby d5_18) (XS.goto X3.here hx rfl (pc0 := 19) (pc' := 23) rfl (hb hby d5_19) (by decide) (by decide) kk))) ?_
      refine go_end X3 (v := some (.int (nar .boolean (1 : Int32)))) (fun h => by rw [Bd.returns] at h; cases h) Bd.notSynchronized (by decide) (by decide) (Q := (Q_isl_0 Z a gC gF h0 n0)) ?_ (fun fs hr => retN X3 hx (t := .boolean) Bd.returns (by simp) (hb hby d5_23) hr)
      unfold Q_isl_0
      try rw [e3]
      refine ⟨?_, N3, rfl⟩
      have hq42 := hr1.mp hcc2
      have hq63 := hr3.mp hcc4
      simp [own_lit, nar, hq42, hq63]
    · refine go_of (B := (T3.setTop (mkF m 23 #[.val (.ref a)] [(.int (0 : Int32))]))) (fun _ kk => XS.ifYes X3.here hx rfl (pc0 := 15) (pc' := 22) rfl (hb hby d5_15) rfl ((if0 _ _).trans (flt hcc4).2.1) (by decide) (by decide) (XS.iconst X3.here hx rfl (hb hby d5_22) kk)) ?_
      refine go_end X3 (v := some (.int (nar .boolean (0 : Int32)))) (fun h => by rw [Bd.returns] at h; cases h) Bd.notSynchronized (by decide) (by decide) (Q := (Q_isl_0 Z a gC gF h0 n0)) ?_ (fun fs hr => retN X3 hx (t := .boolean) Bd.returns (by simp) (hb hby d5_23) hr)
      unfold Q_isl_0
      try rw [e3]
      refine ⟨?_, N3, rfl⟩
      have hq42 := hr1.mp hcc2
      have hq63 := own_bt (fun q => hcc4 (hr3.mpr q))
      simp [own_lit, nar, hq42, hq63]
  · refine go_of (B := (T1.setTop (mkF m 23 #[.val (.ref a)] [(.int (0 : Int32))]))) (fun _ kk => XS.ifYes X1.here hx rfl (pc0 := 6) (pc' := 22) rfl (hb hby d5_6) rfl ((if0 _ _).trans (flt hcc2).2.1) (by decide) (by decide) (XS.iconst X1.here hx rfl (hb hby d5_22) kk)) ?_
    refine go_end X1 (v := some (.int (nar .boolean (0 : Int32)))) (fun h => by rw [Bd.returns] at h; cases h) Bd.notSynchronized (by decide) (by decide) (Q := (Q_isl_0 Z a gC gF h0 n0)) ?_ (fun fs hr => retN X1 hx (t := .boolean) Bd.returns (by simp) (hb hby d5_23) hr)
    unfold Q_isl_0
    try rw [e1]
    refine ⟨?_, N1, rfl⟩
    have hq42 := own_bt (fun q => hcc2 (hr1.mpr q))
    simp [own_lit, nar, hq42]
theorem d19_0 : decode jdk_43_method_23_code 0 = .ok (.iload_n 1, 1) := by decide +kernel
theorem d19_1 : decode jdk_43_method_23_code 1 = .ok (.i2b, 1) := by decide +kernel
theorem d19_2 : decode jdk_43_method_23_code 2 = .ok (.istore 4, 2) := by decide +kernel
theorem d19_4 : decode jdk_43_method_23_code 4 = .ok (.iload_n 2, 1) := by decide +kernel
theorem d19_5 : decode jdk_43_method_23_code 5 = .ok (.istore 5, 2) := by decide +kernel
theorem d19_7 : decode jdk_43_method_23_code 7 = .ok (.iload 5, 2) := by decide +kernel
theorem d19_9 : decode jdk_43_method_23_code 9 = .ok (.iload_n 3, 1) := by decide +kernel
theorem d19_10 : decode jdk_43_method_23_code 10 = .ok (.if_icmp .ge 21, 3) := by decide +kernel
theorem d19_13 : decode jdk_43_method_23_code 13 = .ok (.aload_n 0, 1) := by decide +kernel
theorem d19_14 : decode jdk_43_method_23_code 14 = .ok (.iload 5, 2) := by decide +kernel
theorem d19_16 : decode jdk_43_method_23_code 16 = .ok (.baload, 1) := by decide +kernel
theorem d19_17 : decode jdk_43_method_23_code 17 = .ok (.iload 4, 2) := by decide +kernel
theorem d19_19 : decode jdk_43_method_23_code 19 = .ok (.if_icmp .ne 6, 3) := by decide +kernel
theorem d19_22 : decode jdk_43_method_23_code 22 = .ok (.iload 5, 2) := by decide +kernel
theorem d19_24 : decode jdk_43_method_23_code 24 = .ok (.ireturn, 1) := by decide +kernel
def Q_ioc_1 (Z : State) (t : Addr) (wc : Int32) (w0 : Int32) (k : ClassId) (h0 : Heap) (n0 : Nat) (v : Option Value) (h : Heap) (L : List Loc) : Prop := ∃ r : Int32, v = some (.int r) ∧ (r < 0 ↔ own_hs (own_b8 wc) [w0] = false) ∧ Fr n0 L ∧ h = h0
theorem d19_25 : decode jdk_43_method_23_code 25 = .ok (.iinc 5 1, 3) := by decide +kernel
theorem d19_28 : decode jdk_43_method_23_code 28 = .ok (.goto (-21), 3) := by decide +kernel
theorem d19_31 : decode jdk_43_method_23_code 31 = .ok (.iconst (-1), 1) := by decide +kernel
theorem d19_32 : decode jdk_43_method_23_code 32 = .ok (.ireturn, 1) := by decide +kernel
theorem ef_ioc_1 (m : MethodId) (t : Addr) (wc : Int32)  : entryFrame m #[(.ref t), (.int wc), (.int (0 : Int32)), (.int (1 : Int32))] 6 = mkF m 0 #[.val (.ref t), .val (.int wc), .val (.int (0 : Int32)), .val (.int (1 : Int32)), .unset, .unset] [] := by first | (simp [entryFrame, mkF, argsToLocals, Value.category]; done) | rfl
theorem ioc_1 (l : Launch) (Z : State) (a0 : Array Value) (hw : TW a0 Z) (ws : List Cond) (t : Addr) (wc : Int32) (w0 : Int32) (k : ClassId) (h0 : Heap) (n0 : Nat) (Z0 : n0 ≤ h0.size) (V : Arv Z h0 t k .byte 1 [(.int w0)] (.int 0)) :
    own_MF l Z MN14 jdk_43_method_23_code 6 (some .int) ws (own_R 0 0 0 0) #[(.ref t), (.int wc), (.int (0 : Int32)), (.int (1 : Int32))] h0 (Q_ioc_1 Z t wc w0 k h0 n0) := by
  have wd := @own_wd _ _ hw
  refine MetFree.of_bodySF (plainFor_of_name pn_java_lang_StringLatin1) hisR ?_
  intro p e s m args below meth c s₁ Bd hml0 hP hK
  obtain ⟨rfl, hZ, hh⟩ := hP
  have hx := Bd.exec
  have hby := Bd.bytes
  have hml : c.maxLocals = 6 := hml0
  have hown : s.vm.findClass "java/lang/StringLatin1" = some m.cls := findClass_of_methodNamed Bd.named
  have hnm := (name_of_methodNamed Bd.named Bd.method).1
  have X0 : Stand p l e (own_R 0 0 0 0) s m #[(.ref t), (.int wc), (.int (0 : Int32)), (.int (1 : Int32))] below meth c s₁ [] 0 0 := Stand.of_body Bd
  have e0 : s₁.heap = h0 := by rw [← hh, Bd.state]; rfl
  have N0 := Fr.nil n0
  refine go_of (A := s₁.setTop (entryFrame m #[(.ref t), (.int wc), (.int (0 : Int32)), (.int (1 : Int32))] 6)) (B := s₁.setTop (mkF m 0 #[.val (.ref t), .val (.int wc), .val (.int (0 : Int32)), .val (.int (1 : Int32)), .unset, .unset] [])) (fun _ kk' => castTop (ef_ioc_1 m t wc) kk') ?_
  refine go_of (B := (s₁.setTop (mkF m 9 #[.val (.ref t), .val (.int wc), .val (.int (0 : Int32)), .val (.int (1 : Int32)), .val (.int (own_b8 wc)), .val (.int (0 : Int32))] [(.int (0 : Int32))]))) (fun _ kk => XS.iloadN X0.here hx rfl (hb hby d19_0) rfl (XS.i2b X0.here hx rfl (hb hby d19_1) rfl (XS.istore X0.here hx rfl (hb hby d19_2) rfl rfl (XS.iloadN X0.here hx rfl (hb hby d19_4) rfl (XS.istore X0.here hx rfl (hb hby d19_5) rfl rfl (XS.iload X0.here hx rfl (hb hby d19_7) rfl kk)))))) ?_
  refine go_of (B := (s₁.setTop (mkF m 16 #[.val (.ref t), .val (.int wc), .val (.int (0 : Int32)), .val (.int (1 : Int32)), .val (.int (own_b8 wc)), .val (.int (0 : Int32))] [(.int (0 : Int32)), (.ref t)]))) (fun _ kk => XS.iloadN X0.here hx rfl (hb hby d19_9) rfl (XS.icmpNo X0.here hx rfl (hb hby d19_10) rfl (tlt (by decide : (0 : Int32) < (1 : Int32))).2.1 (XS.aloadN X0.here hx rfl (hb hby d19_13) rfl rfl (XS.iload X0.here hx rfl (hb hby d19_14) rfl kk)))) ?_
  obtain ⟨cl1, Ar1, q1, Sz1, Nn1, Hh1, G1⟩ := id (V)
  refine go_of (B := (s₁.setTop (mkF m 19 #[.val (.ref t), .val (.int wc), .val (.int (0 : Int32)), .val (.int (1 : Int32)), .val (.int (own_b8 wc)), .val (.int (0 : Int32))] [(.int (own_b8 wc)), (.int w0)]))) (fun _ kk => X0.baloadBytes hx (j := (0 : Int32)) (v := (.int w0)) (by rw [e0]; exact Ar1.1) (State.isArrayOf_alike hZ.alike Ar1.2.1) Ar1.2.2 (inb_of Sz1 ⟨by decide, by decide⟩) (Hh1.at (inb_of Sz1 ⟨by decide, by decide⟩) rfl) (g := (mkF m 16 #[.val (.ref t), .val (.int wc), .val (.int (0 : Int32)), .val (.int (1 : Int32)), .val (.int (own_b8 wc)), .val (.int (0 : Int32))] [(.int (0 : Int32)), (.ref t)])) rfl rfl (hb hby d19_16) _ (XS.iload X0.here hx rfl (hb hby d19_17) rfl kk)) ?_
  by_cases hcc2 : w0 = (own_b8 wc)
  · refine go_of (B := (s₁.setTop (mkF m 24 #[.val (.ref t), .val (.int wc), .val (.int (0 : Int32)), .val (.int (1 : Int32)), .val (.int (own_b8 wc)), .val (.int (0 : Int32))] [(.int (0 : Int32))]))) (fun _ kk => XS.icmpNo X0.here hx rfl (hb hby d19_19) rfl (teq hcc2).2 (XS.iload X0.here hx rfl (hb hby d19_22) rfl kk)) ?_
    refine go_end X0 (v := some (.int (0 : Int32))) (fun h => by rw [Bd.returns] at h; cases h) Bd.notSynchronized (by decide) (by decide) (Q := (Q_ioc_1 Z t wc w0 k h0 n0)) ?_ (fun fs hr => own_retI X0 hx Bd.returns (hb hby d19_24) hr)
    unfold Q_ioc_1
    try rw [e0]
    exact ⟨_, rfl, iff_of_false (by decide) (by simp [own_hs, hcc2]), N0, rfl⟩
  · refine go_of (B := (s₁.setTop (mkF m 31 #[.val (.ref t), .val (.int wc), .val (.int (0 : Int32)), .val (.int (1 : Int32)), .val (.int (own_b8 wc)), .val (.int (1 : Int32))] []))) (fun _ kk => XS.icmpYes X0.here hx rfl (pc0 := 19) (pc' := 25) rfl (hb hby d19_19) rfl (feq hcc2).2 (by decide) (by decide) (XS.iinc X0.here hx rfl (hb hby d19_25) rfl rfl (XS.goto X0.here hx rfl (pc0 := 28) (pc' := 7) rfl (hb hby d19_28) (by decide) (by decide) (XS.iload X0.here hx rfl (hb hby d19_7) rfl (XS.iloadN X0.here hx rfl (hb hby d19_9) rfl (XS.icmpYes X0.here hx rfl (pc0 := 10) (pc' := 31) rfl (hb hby d19_10) rfl (flt (by decide : ¬ ((1 : Int32) < (1 : Int32)))).2.1 (by decide) (by decide) kk)))))) ?_
    refine go_of (B := (s₁.setTop (mkF m 32 #[.val (.ref t), .val (.int wc), .val (.int (0 : Int32)), .val (.int (1 : Int32)), .val (.int (own_b8 wc)), .val (.int (1 : Int32))] [(.int (-1 : Int32))]))) (fun _ kk => XS.iconst X0.here hx rfl (hb hby d19_31) kk) ?_
    refine go_end X0 (v := some (.int (-1 : Int32))) (fun h => by rw [Bd.returns] at h; cases h) Bd.notSynchronized (by decide) (by decide) (Q := (Q_ioc_1 Z t wc w0 k h0 n0)) ?_ (fun fs hr => own_retI X0 hx Bd.returns (hb hby d19_32) hr)
    unfold Q_ioc_1
    try rw [e0]
    exact ⟨_, rfl, iff_of_true (by decide) (by simp [own_hs, hcc2]), N0, rfl⟩
theorem d11_29 : decode jdk_43_method_22_code 29 = .ok (.aload_n 0, 1) := by decide +kernel
theorem d11_30 : decode jdk_43_method_22_code 30 = .ok (.iload_n 1, 1) := by decide +kernel
theorem d11_31 : decode jdk_43_method_22_code 31 = .ok (.iload_n 2, 1) := by decide +kernel
theorem d11_32 : decode jdk_43_method_22_code 32 = .ok (.iload_n 3, 1) := by decide +kernel
theorem d11_33 : decode jdk_43_method_22_code 33 = .ok (.invokestatic 95, 3) := by decide +kernel
theorem d11_36 : decode jdk_43_method_22_code 36 = .ok (.ireturn, 1) := by decide +kernel
def Q_lio_1 (Z : State) (t : Addr) (wc : Int32) (w0 : Int32) (k : ClassId) (h0 : Heap) (n0 : Nat) (v : Option Value) (h : Heap) (L : List Loc) : Prop := ∃ r : Int32, v = some (.int r) ∧ (r < 0 ↔ own_hs (own_b8 wc) [w0] = false) ∧ Fr n0 L ∧ h = h0
theorem ef_lio_1 (m : MethodId) (t : Addr) (wc : Int32)  : entryFrame m #[(.ref t), (.int wc), (.int (0 : Int32)), (.int (1 : Int32))] 4 = mkF m 0 #[.val (.ref t), .val (.int wc), .val (.int (0 : Int32)), .val (.int (1 : Int32))] [] := by first | (simp [entryFrame, mkF, argsToLocals, Value.category]; done) | rfl
theorem lio_1 (l : Launch) (Z : State) (a0 : Array Value) (hw : TW a0 Z) (ws : List Cond) (t : Addr) (wc : Int32) (w0 : Int32) (k : ClassId) (h0 : Heap) (n0 : Nat) (Z0 : n0 ≤ h0.size) (V : Arv Z h0 t k .byte 1 [(.int w0)] (.int 0)) (hwc : ¬ wc < 0 ∧ ¬ (255 : Int32) < wc) :
    own_MF l Z MN13 jdk_43_method_22_code 4 (some .int) ws (own_R 1 0 0 17) #[(.ref t), (.int wc), (.int (0 : Int32)), (.int (1 : Int32))] h0 (Q_lio_1 Z t wc w0 k h0 n0) := by
  have wd := @own_wd _ _ hw
  refine MetFree.of_bodySF (plainFor_of_name pn_java_lang_StringLatin1) hisR ?_
  intro p e s m args below meth c s₁ Bd hml0 hP hK
  obtain ⟨rfl, hZ, hh⟩ := hP
  have hx := Bd.exec
  have hby := Bd.bytes
  have hml : c.maxLocals = 4 := hml0
  have hown : s.vm.findClass "java/lang/StringLatin1" = some m.cls := findClass_of_methodNamed Bd.named
  have hnm := (name_of_methodNamed Bd.named Bd.method).1
  have X0 : Stand p l e (own_R 1 0 0 17) s m #[(.ref t), (.int wc), (.int (0 : Int32)), (.int (1 : Int32))] below meth c s₁ [] 0 0 := Stand.of_body Bd
  have e0 : s₁.heap = h0 := by rw [← hh, Bd.state]; rfl
  have N0 := Fr.nil n0
  refine go_of (A := s₁.setTop (entryFrame m #[(.ref t), (.int wc), (.int (0 : Int32)), (.int (1 : Int32))] 4)) (B := s₁.setTop (mkF m 0 #[.val (.ref t), .val (.int wc), .val (.int (0 : Int32)), .val (.int (1 : Int32))] [])) (fun _ kk' => castTop (ef_lio_1 m t wc) kk') ?_
  refine go_of (B := (s₁.setTop (mkF m 1 #[.val (.ref t), .val (.int wc), .val (.int (0 : Int32)), .val (.int (1 : Int32))] [(.int wc)]))) (fun _ kk => XS.iloadN X0.here hx rfl (hb hby d11_0) rfl kk) ?_
  obtain ⟨_, _, ⟨T1, L1, k1, n1⟩, -, X1, ⟨Lc1, hQ1, l1, y1, z1⟩, st1⟩ := Jvm.LawKit.callS X0 hx (y := MN12) hown (mvT hZ (wd 62 rfl)) (mvT hZ (wd 63 rfl)) (mvT hZ (wd 60 rfl)) (mvT hZ (wd 64 rfl)) (by decide) (backOf (W := 0) (cani l Z a0 hw [] wc h0 n0 (by omega) hwc) hZ (wd 64 rfl) (wd 60 rfl) (by decide) (by decide)) (g := (mkF m 1 #[.val (.ref t), .val (.int wc), .val (.int (0 : Int32)), .val (.int (1 : Int32))] [(.int wc)])) rfl (by rw [hml]; rfl) (argsL := [(.int wc)]) (rest := []) (lenOf pd__I_Z rfl) rfl (Nat.le_of_eq rfl) (hb hby d11_1) (fun _ _ => ⟨rfl, e0, (by decide : 0 + 0 ≤ _), (by decide : 0 + 0 ≤ _)⟩)
  dsimp only [Pt.U, Pt.locs, Pt.cells, Pt.slots] at X1 l1 y1 z1 st1 hQ1
  subst l1 y1 z1
  obtain ⟨rfl, N1q, e1⟩ := hQ1
  have N1 := Fr.app N0 N1q
  refine go_of (B := (T1.setTop (mkF m 4 #[.val (.ref t), .val (.int wc), .val (.int (0 : Int32)), .val (.int (1 : Int32))] [(.int (1 : Int32))]))) (st1) ?_
  refine go_of (B := (T1.setTop (mkF m 11 #[.val (.ref t), .val (.int wc), .val (.int (0 : Int32)), .val (.int (1 : Int32))] [(.int (0 : Int32)), (.int (0 : Int32))]))) (fun _ kk => XS.ifYes X1.here hx rfl (pc0 := 4) (pc' := 9) rfl (hb hby d11_4) rfl ((if0 _ _).trans (feq (by decide : ¬ ((1 : Int32) = (0 : Int32)))).2) (by decide) (by decide) (XS.iloadN X1.here hx rfl (hb hby d11_9) rfl (XS.iconst X1.here hx rfl (hb hby d11_10) kk))) ?_
  obtain ⟨_, _, ⟨T2, L2, k2, n2⟩, -, X2, ⟨Lc2, hQ2, l2, y2, z2⟩, st2⟩ := Jvm.LawKit.callS X1 hx (y := MN3) hown (mvT hZ (wd 65 rfl)) (mvT hZ (wd 66 rfl)) (mvT hZ (wd 67 rfl)) (mvT hZ (wd 68 rfl)) (by decide) (backOf (W := 0) (v_max l Z a0 hw [] (0 : Int32) (0 : Int32) (0 : Int32) h0 n0 (by omega) (by decide)) hZ (wd 68 rfl) (wd 67 rfl) (by decide) (by decide)) (g := (mkF m 11 #[.val (.ref t), .val (.int wc), .val (.int (0 : Int32)), .val (.int (1 : Int32))] [(.int (0 : Int32)), (.int (0 : Int32))])) rfl (by rw [hml]; rfl) (argsL := [(.int (0 : Int32)), (.int (0 : Int32))]) (rest := []) (lenOf pd__II_I rfl) rfl (Nat.le_of_eq rfl) (hb hby d11_11) (fun _ _ => ⟨rfl, e1, (by decide : 0 + 0 ≤ _), (by decide : 0 + 0 ≤ _)⟩)
  dsimp only [Pt.U, Pt.locs, Pt.cells, Pt.slots] at X2 l2 y2 z2 st2 hQ2
  subst l2 y2 z2
  obtain ⟨rfl, N2q, e2⟩ := hQ2
  have N2 := Fr.app N1 N2q
  refine go_of (B := (T2.setTop (mkF m 14 #[.val (.ref t), .val (.int wc), .val (.int (0 : Int32)), .val (.int (1 : Int32))] [(.int (0 : Int32))]))) (st2) ?_
  refine go_of (B := (T2.setTop (mkF m 17 #[.val (.ref t), .val (.int wc), .val (.int (0 : Int32)), .val (.int (1 : Int32))] [(.ref t), (.int (1 : Int32))]))) (fun _ kk => XS.istoreN X2.here hx rfl (hb hby d11_14) rfl rfl (XS.iloadN X2.here hx rfl (hb hby d11_15) rfl (XS.aloadN X2.here hx rfl (hb hby d11_16) rfl rfl kk))) ?_
  obtain ⟨cl3, Ar3, q3, Sz3, Nn3, Hh3, G3⟩ := id (V)
  have ln3 := len_of Sz3 Nn3
  refine go_of (B := (T2.setTop (mkF m 18 #[.val (.ref t), .val (.int wc), .val (.int (0 : Int32)), .val (.int (1 : Int32))] [(.int (1 : Int32)), (.int (1 : Int32))]))) (fun _ kk => X2.arraylength hx (by rw [e2]; exact Ar3.1) (State.isArrayOf_alike hZ.alike Ar3.2.1) (g := (mkF m 17 #[.val (.ref t), .val (.int wc), .val (.int (0 : Int32)), .val (.int (1 : Int32))] [(.ref t), (.int (1 : Int32))])) rfl rfl (hb hby d11_17) _ (by rw [ln3]; exact kk)) ?_
  obtain ⟨_, _, ⟨T4, L4, k4, n4⟩, -, X4, ⟨Lc4, hQ4, l4, y4, z4⟩, st4⟩ := Jvm.LawKit.callS X2 hx (y := MN4) hown (mvT hZ (wd 69 rfl)) (mvT hZ (wd 70 rfl)) (mvT hZ (wd 67 rfl)) (mvT hZ (wd 71 rfl)) (by decide) (backOf (W := 0) (v_min l Z a0 hw [] (1 : Int32) (1 : Int32) (1 : Int32) h0 n0 (by omega) (by decide)) hZ (wd 71 rfl) (wd 67 rfl) (by decide) (by decide)) (g := (mkF m 18 #[.val (.ref t), .val (.int wc), .val (.int (0 : Int32)), .val (.int (1 : Int32))] [(.int (1 : Int32)), (.int (1 : Int32))])) rfl (by rw [hml]; rfl) (argsL := [(.int (1 : Int32)), (.int (1 : Int32))]) (rest := []) (lenOf pd__II_I rfl) rfl (Nat.le_of_eq rfl) (hb hby d11_18) (fun _ _ => ⟨rfl, e2, (by decide : 0 + 0 ≤ _), (by decide : 0 + 0 ≤ _)⟩)
  dsimp only [Pt.U, Pt.locs, Pt.cells, Pt.slots] at X4 l4 y4 z4 st4 hQ4
  subst l4 y4 z4
  obtain ⟨rfl, N4q, e4⟩ := hQ4
  have N4 := Fr.app N2 N4q
  refine go_of (B := (T4.setTop (mkF m 21 #[.val (.ref t), .val (.int wc), .val (.int (0 : Int32)), .val (.int (1 : Int32))] [(.int (1 : Int32))]))) (st4) ?_
  refine go_of (B := (T4.setTop (mkF m 31 #[.val (.ref t), .val (.int wc), .val (.int (0 : Int32)), .val (.int (1 : Int32))] [(.int wc), (.ref t)]))) (fun _ kk => XS.istoreN X4.here hx rfl (hb hby d11_21) rfl rfl (XS.iloadN X4.here hx rfl (hb hby d11_22) rfl (XS.iloadN X4.here hx rfl (hb hby d11_23) rfl (XS.icmpYes X4.here hx rfl (pc0 := 24) (pc' := 29) rfl (hb hby d11_24) rfl (tlt (by decide : (0 : Int32) < (1 : Int32))).1 (by decide) (by decide) (XS.aloadN X4.here hx rfl (hb hby d11_29) rfl rfl (XS.iloadN X4.here hx rfl (hb hby d11_30) rfl kk)))))) ?_
  refine go_of (B := (T4.setTop (mkF m 33 #[.val (.ref t), .val (.int wc), .val (.int (0 : Int32)), .val (.int (1 : Int32))] [(.int (1 : Int32)), (.int (0 : Int32)), (.int wc), (.ref t)]))) (fun _ kk => XS.iloadN X4.here hx rfl (hb hby d11_31) rfl (XS.iloadN X4.here hx rfl (hb hby d11_32) rfl kk)) ?_
  obtain ⟨_, _, ⟨T5, L5, k5, n5⟩, -, X5, ⟨Lc5, hQ5, l5, y5, z5⟩, st5⟩ := Jvm.LawKit.callS X4 hx (y := MN14) hown (mvT hZ (wd 85 rfl)) (mvT hZ (wd 86 rfl)) (mvT hZ (wd 60 rfl)) (mvT hZ (wd 87 rfl)) (by decide) (backOf (W := 0) (ioc_1 l Z a0 hw [] t wc w0 k h0 n0 (by omega) V) hZ (wd 87 rfl) (wd 60 rfl) (by decide) (by decide)) (g := (mkF m 33 #[.val (.ref t), .val (.int wc), .val (.int (0 : Int32)), .val (.int (1 : Int32))] [(.int (1 : Int32)), (.int (0 : Int32)), (.int wc), (.ref t)])) rfl (by rw [hml]; rfl) (argsL := [(.ref t), (.int wc), (.int (0 : Int32)), (.int (1 : Int32))]) (rest := []) (lenOf pd___BIII_I rfl) rfl (Nat.le_of_eq rfl) (hb hby d11_33) (fun _ _ => ⟨rfl, e4, (by decide : 0 + 0 ≤ _), (by decide : 0 + 0 ≤ _)⟩)
  dsimp only [Pt.U, Pt.locs, Pt.cells, Pt.slots] at X5 l5 y5 z5 st5 hQ5
  subst l5 y5 z5
  obtain ⟨r5, rfl, hr5, N5q, e5⟩ := hQ5
  have N5 := Fr.app N4 N5q
  refine go_of (B := (T5.setTop (mkF m 36 #[.val (.ref t), .val (.int wc), .val (.int (0 : Int32)), .val (.int (1 : Int32))] [(.int r5)]))) (st5) ?_
  refine go_end X5 (v := some (.int r5)) (fun h => by rw [Bd.returns] at h; cases h) Bd.notSynchronized (by decide) (by decide) (Q := (Q_lio_1 Z t wc w0 k h0 n0)) ?_ (fun fs hr => own_retI X5 hx Bd.returns (hb hby d11_36) hr)
  unfold Q_lio_1
  try rw [e5]
  exact ⟨_, rfl, hr5, N5, rfl⟩
theorem d31_0 : decode jdk_52_method_48_code 0 = .ok (.iload_n 2, 1) := by decide +kernel
theorem d31_1 : decode jdk_52_method_48_code 1 = .ok (.istore 4, 2) := by decide +kernel
theorem d31_3 : decode jdk_52_method_48_code 3 = .ok (.iload 4, 2) := by decide +kernel
theorem d31_5 : decode jdk_52_method_48_code 5 = .ok (.iload_n 3, 1) := by decide +kernel
theorem d31_6 : decode jdk_52_method_48_code 6 = .ok (.if_icmp .ge 22, 3) := by decide +kernel
theorem d31_9 : decode jdk_52_method_48_code 9 = .ok (.aload_n 0, 1) := by decide +kernel
theorem d31_10 : decode jdk_52_method_48_code 10 = .ok (.iload 4, 2) := by decide +kernel
theorem d31_12 : decode jdk_52_method_48_code 12 = .ok (.invokestatic 71, 3) := by decide +kernel
theorem pd___BI_C : parseMethodDescriptor "([BI)C" = some ⟨[(.array .byte), .int], some .char⟩ := by decide +kernel
theorem d31_15 : decode jdk_52_method_48_code 15 = .ok (.iload_n 1, 1) := by decide +kernel
theorem d31_16 : decode jdk_52_method_48_code 16 = .ok (.if_icmp .ne 6, 3) := by decide +kernel
theorem d31_19 : decode jdk_52_method_48_code 19 = .ok (.iload 4, 2) := by decide +kernel
theorem d31_21 : decode jdk_52_method_48_code 21 = .ok (.ireturn, 1) := by decide +kernel
def Q_ucu_1 (Z : State) (t : Addr) (wc : Int32) (c0 : Int32) (k : ClassId) (h0 : Heap) (n0 : Nat) (v : Option Value) (h : Heap) (L : List Loc) : Prop := ∃ r : Int32, v = some (.int r) ∧ (r < 0 ↔ own_hs wc [c0] = false) ∧ Fr n0 L ∧ h = h0
theorem d31_22 : decode jdk_52_method_48_code 22 = .ok (.iinc 4 1, 3) := by decide +kernel
theorem d31_25 : decode jdk_52_method_48_code 25 = .ok (.goto (-22), 3) := by decide +kernel
theorem d31_28 : decode jdk_52_method_48_code 28 = .ok (.iconst (-1), 1) := by decide +kernel
theorem d31_29 : decode jdk_52_method_48_code 29 = .ok (.ireturn, 1) := by decide +kernel
theorem ef_ucu_1 (m : MethodId) (t : Addr) (wc : Int32)  : entryFrame m #[(.ref t), (.int wc), (.int (0 : Int32)), (.int (1 : Int32))] 5 = mkF m 0 #[.val (.ref t), .val (.int wc), .val (.int (0 : Int32)), .val (.int (1 : Int32)), .unset] [] := by first | (simp [entryFrame, mkF, argsToLocals, Value.category]; done) | rfl
theorem ucu_1 (l : Launch) (Z : State) (a0 : Array Value) (hw : TW a0 Z) (ws : List Cond) (t : Addr) (wc : Int32) (c0 : Int32) (k : ClassId) (h0 : Heap) (n0 : Nat) (Z0 : n0 ≤ h0.size) (O : Old Z n0 h0) (SU : US Z) (V : Arv Z h0 t k .byte 2 [(.int (own_b0 c0)), (.int (own_b1 c0))] (.int 0)) (hc0 : ¬ c0 < 0 ∧ ¬ (65535 : Int32) < c0) :
    own_MF l Z MN22 jdk_52_method_48_code 5 (some .int) ws (own_R 1 0 0 13) #[(.ref t), (.int wc), (.int (0 : Int32)), (.int (1 : Int32))] h0 (Q_ucu_1 Z t wc c0 k h0 n0) := by
  have wd := @own_wd _ _ hw
  refine MetFree.of_bodySF (plainFor_of_name pn_java_lang_StringUTF16) hisR ?_
  intro p e s m args below meth c s₁ Bd hml0 hP hK
  obtain ⟨rfl, hZ, hh⟩ := hP
  have hx := Bd.exec
  have hby := Bd.bytes
  have hml : c.maxLocals = 5 := hml0
  have hown : s.vm.findClass "java/lang/StringUTF16" = some m.cls := findClass_of_methodNamed Bd.named
  have hnm := (name_of_methodNamed Bd.named Bd.method).1
  have X0 : Stand p l e (own_R 1 0 0 13) s m #[(.ref t), (.int wc), (.int (0 : Int32)), (.int (1 : Int32))] below meth c s₁ [] 0 0 := Stand.of_body Bd
  have e0 : s₁.heap = h0 := by rw [← hh, Bd.state]; rfl
  have N0 := Fr.nil n0
  refine go_of (A := s₁.setTop (entryFrame m #[(.ref t), (.int wc), (.int (0 : Int32)), (.int (1 : Int32))] 5)) (B := s₁.setTop (mkF m 0 #[.val (.ref t), .val (.int wc), .val (.int (0 : Int32)), .val (.int (1 : Int32)), .unset] [])) (fun _ kk' => castTop (ef_ucu_1 m t wc) kk') ?_
  refine go_of (B := (s₁.setTop (mkF m 10 #[.val (.ref t), .val (.int wc), .val (.int (0 : Int32)), .val (.int (1 : Int32)), .val (.int (0 : Int32))] [(.ref t)]))) (fun _ kk => XS.iloadN X0.here hx rfl (hb hby d31_0) rfl (XS.istore X0.here hx rfl (hb hby d31_1) rfl rfl (XS.iload X0.here hx rfl (hb hby d31_3) rfl (XS.iloadN X0.here hx rfl (hb hby d31_5) rfl (XS.icmpNo X0.here hx rfl (hb hby d31_6) rfl (tlt (by decide : (0 : Int32) < (1 : Int32))).2.1 (XS.aloadN X0.here hx rfl (hb hby d31_9) rfl rfl kk)))))) ?_
  refine go_of (B := (s₁.setTop (mkF m 12 #[.val (.ref t), .val (.int wc), .val (.int (0 : Int32)), .val (.int (1 : Int32)), .val (.int (0 : Int32))] [(.int (0 : Int32)), (.ref t)]))) (fun _ kk => XS.iload X0.here hx rfl (hb hby d31_10) rfl kk) ?_
  obtain ⟨_, _, ⟨T1, L1, k1, n1⟩, -, X1, ⟨Lc1, hQ1, l1, y1, z1⟩, st1⟩ := Jvm.LawKit.callS X0 hx (y := MN19) hown (mvT hZ (wd 104 rfl)) (mvT hZ (wd 105 rfl)) (mvT hZ (wd 77 rfl)) (mvT hZ (wd 106 rfl)) (by decide) (backOf (W := 0) (u_get l Z a0 hw [] t (0 : Int32) (2 : Int32) _ c0 k h0 n0 (by omega) O SU V (by decide) (by decide) rfl rfl hc0) hZ (wd 106 rfl) (wd 77 rfl) (by decide) (by decide)) (g := (mkF m 12 #[.val (.ref t), .val (.int wc), .val (.int (0 : Int32)), .val (.int (1 : Int32)), .val (.int (0 : Int32))] [(.int (0 : Int32)), (.ref t)])) rfl (by rw [hml]; rfl) (argsL := [(.ref t), (.int (0 : Int32))]) (rest := []) (lenOf pd___BI_C rfl) rfl (Nat.le_of_eq rfl) (hb hby d31_12) (fun _ _ => ⟨rfl, e0, (by decide : 0 + 0 ≤ _), (by decide : 0 + 0 ≤ _)⟩)
  dsimp only [Pt.U, Pt.locs, Pt.cells, Pt.slots] at X1 l1 y1 z1 st1 hQ1
  subst l1 y1 z1
  obtain ⟨rfl, N1q, e1⟩ := hQ1
  have N1 := Fr.app N0 N1q
  refine go_of (B := (T1.setTop (mkF m 15 #[.val (.ref t), .val (.int wc), .val (.int (0 : Int32)), .val (.int (1 : Int32)), .val (.int (0 : Int32))] [(.int c0)]))) (st1) ?_
  refine go_of (B := (T1.setTop (mkF m 16 #[.val (.ref t), .val (.int wc), .val (.int (0 : Int32)), .val (.int (1 : Int32)), .val (.int (0 : Int32))] [(.int wc), (.int c0)]))) (fun _ kk => XS.iloadN X1.here hx rfl (hb hby d31_15) rfl kk) ?_
  by_cases hcc2 : c0 = wc
  · refine go_of (B := (T1.setTop (mkF m 21 #[.val (.ref t), .val (.int wc), .val (.int (0 : Int32)), .val (.int (1 : Int32)), .val (.int (0 : Int32))] [(.int (0 : Int32))]))) (fun _ kk => XS.icmpNo X1.here hx rfl (hb hby d31_16) rfl (teq hcc2).2 (XS.iload X1.here hx rfl (hb hby d31_19) rfl kk)) ?_
    refine go_end X1 (v := some (.int (0 : Int32))) (fun h => by rw [Bd.returns] at h; cases h) Bd.notSynchronized (by decide) (by decide) (Q := (Q_ucu_1 Z t wc c0 k h0 n0)) ?_ (fun fs hr => own_retI X1 hx Bd.returns (hb hby d31_21) hr)
    unfold Q_ucu_1
    try rw [e1]
    exact ⟨_, rfl, iff_of_false (by decide) (by simp [own_hs, hcc2]), N1, rfl⟩
  · refine go_of (B := (T1.setTop (mkF m 28 #[.val (.ref t), .val (.int wc), .val (.int (0 : Int32)), .val (.int (1 : Int32)), .val (.int (1 : Int32))] []))) (fun _ kk => XS.icmpYes X1.here hx rfl (pc0 := 16) (pc' := 22) rfl (hb hby d31_16) rfl (feq hcc2).2 (by decide) (by decide) (XS.iinc X1.here hx rfl (hb hby d31_22) rfl rfl (XS.goto X1.here hx rfl (pc0 := 25) (pc' := 3) rfl (hb hby d31_25) (by decide) (by decide) (XS.iload X1.here hx rfl (hb hby d31_3) rfl (XS.iloadN X1.here hx rfl (hb hby d31_5) rfl (XS.icmpYes X1.here hx rfl (pc0 := 6) (pc' := 28) rfl (hb hby d31_6) rfl (flt (by decide : ¬ ((1 : Int32) < (1 : Int32)))).2.1 (by decide) (by decide) kk)))))) ?_
    refine go_of (B := (T1.setTop (mkF m 29 #[.val (.ref t), .val (.int wc), .val (.int (0 : Int32)), .val (.int (1 : Int32)), .val (.int (1 : Int32))] [(.int (-1 : Int32))]))) (fun _ kk => XS.iconst X1.here hx rfl (hb hby d31_28) kk) ?_
    refine go_end X1 (v := some (.int (-1 : Int32))) (fun h => by rw [Bd.returns] at h; cases h) Bd.notSynchronized (by decide) (by decide) (Q := (Q_ucu_1 Z t wc c0 k h0 n0)) ?_ (fun fs hr => own_retI X1 hx Bd.returns (hb hby d31_29) hr)
    unfold Q_ucu_1
    try rw [e1]
    exact ⟨_, rfl, iff_of_true (by decide) (by simp [own_hs, hcc2]), N1, rfl⟩
theorem d26_0 : decode jdk_52_method_47_code 0 = .ok (.iload_n 2, 1) := by decide +kernel
theorem d26_1 : decode jdk_52_method_47_code 1 = .ok (.iload_n 3, 1) := by decide +kernel
theorem d26_2 : decode jdk_52_method_47_code 2 = .ok (.aload_n 0, 1) := by decide +kernel
theorem d26_3 : decode jdk_52_method_47_code 3 = .ok (.invokestatic 96, 3) := by decide +kernel
theorem pd__II_B_V : parseMethodDescriptor "(II[B)V" = some ⟨[.int, .int, (.array .byte)], none⟩ := by decide +kernel
theorem d26_6 : decode jdk_52_method_47_code 6 = .ok (.aload_n 0, 1) := by decide +kernel
theorem d26_7 : decode jdk_52_method_47_code 7 = .ok (.iload_n 1, 1) := by decide +kernel
theorem d26_8 : decode jdk_52_method_47_code 8 = .ok (.iload_n 2, 1) := by decide +kernel
theorem d26_9 : decode jdk_52_method_47_code 9 = .ok (.iload_n 3, 1) := by decide +kernel
theorem d26_10 : decode jdk_52_method_47_code 10 = .ok (.invokestatic 244, 3) := by decide +kernel
theorem d26_13 : decode jdk_52_method_47_code 13 = .ok (.ireturn, 1) := by decide +kernel
def Q_uic_1 (Z : State) (t : Addr) (wc : Int32) (c0 : Int32) (k : ClassId) (gF : Value) (h0 : Heap) (n0 : Nat) (v : Option Value) (h : Heap) (L : List Loc) : Prop := ∃ r : Int32, v = some (.int r) ∧ (r < 0 ↔ own_hs wc [c0] = false) ∧ Fr n0 L ∧ h = h0
theorem ef_uic_1 (m : MethodId) (t : Addr) (wc : Int32)  : entryFrame m #[(.ref t), (.int wc), (.int (0 : Int32)), (.int (1 : Int32))] 4 = mkF m 0 #[.val (.ref t), .val (.int wc), .val (.int (0 : Int32)), .val (.int (1 : Int32))] [] := by first | (simp [entryFrame, mkF, argsToLocals, Value.category]; done) | rfl
theorem uic_1 (l : Launch) (Z : State) (a0 : Array Value) (hw : TW a0 Z) (ws : List Cond) (t : Addr) (wc : Int32) (c0 : Int32) (k : ClassId) (gF : Value) (h0 : Heap) (n0 : Nat) (Z0 : n0 ≤ h0.size) (O : Old Z n0 h0) (SU : US Z) (V : Arv Z h0 t k .byte 2 [(.int (own_b0 c0)), (.int (own_b1 c0))] (.int 0)) (hc0 : ¬ c0 < 0 ∧ ¬ (65535 : Int32) < c0) (SF : Sta Z Z.heap "jdk/internal/util/Preconditions" "SIOOBE_FORMATTER" "Ljava/util/function/BiFunction;" gF) (rgF : gF.isRef = true) :
    own_MF l Z MN21 jdk_52_method_47_code 4 (some .int) ws (own_R 3 0 0 43) #[(.ref t), (.int wc), (.int (0 : Int32)), (.int (1 : Int32))] h0 (Q_uic_1 Z t wc c0 k gF h0 n0) := by
  have wd := @own_wd _ _ hw
  refine MetFree.of_bodySF (plainFor_of_name pn_java_lang_StringUTF16) hisR ?_
  intro p e s m args below meth c s₁ Bd hml0 hP hK
  obtain ⟨rfl, hZ, hh⟩ := hP
  have hx := Bd.exec
  have hby := Bd.bytes
  have hml : c.maxLocals = 4 := hml0
  have hown : s.vm.findClass "java/lang/StringUTF16" = some m.cls := findClass_of_methodNamed Bd.named
  have hnm := (name_of_methodNamed Bd.named Bd.method).1
  have X0 : Stand p l e (own_R 3 0 0 43) s m #[(.ref t), (.int wc), (.int (0 : Int32)), (.int (1 : Int32))] below meth c s₁ [] 0 0 := Stand.of_body Bd
  have e0 : s₁.heap = h0 := by rw [← hh, Bd.state]; rfl
  have N0 := Fr.nil n0
  refine go_of (A := s₁.setTop (entryFrame m #[(.ref t), (.int wc), (.int (0 : Int32)), (.int (1 : Int32))] 4)) (B := s₁.setTop (mkF m 0 #[.val (.ref t), .val (.int wc), .val (.int (0 : Int32)), .val (.int (1 : Int32))] [])) (fun _ kk' => castTop (ef_uic_1 m t wc) kk') ?_
  refine go_of (B := (s₁.setTop (mkF m 3 #[.val (.ref t), .val (.int wc), .val (.int (0 : Int32)), .val (.int (1 : Int32))] [(.ref t), (.int (1 : Int32)), (.int (0 : Int32))]))) (fun _ kk => XS.iloadN X0.here hx rfl (hb hby d26_0) rfl (XS.iloadN X0.here hx rfl (hb hby d26_1) rfl (XS.aloadN X0.here hx rfl (hb hby d26_2) rfl rfl kk))) ?_
  obtain ⟨_, _, ⟨T1, L1, k1, n1⟩, -, X1, ⟨Lc1, hQ1, l1, y1, z1⟩, st1⟩ := Jvm.LawKit.callS X0 hx (y := MN15) hown (mvT hZ (wd 116 rfl)) (mvT hZ (wd 117 rfl)) (mvT hZ (wd 77 rfl)) (mvT hZ (wd 118 rfl)) (by decide) (backOf (W := 0) (ucbb l Z a0 hw [] (1 : Int32) t (2 : Int32) k _ gF h0 n0 (by omega) O SF rgF V (by decide) (by decide)) hZ (wd 118 rfl) (wd 77 rfl) (by decide) (by decide)) (g := (mkF m 3 #[.val (.ref t), .val (.int wc), .val (.int (0 : Int32)), .val (.int (1 : Int32))] [(.ref t), (.int (1 : Int32)), (.int (0 : Int32))])) rfl (by rw [hml]; rfl) (argsL := [(.int (0 : Int32)), (.int (1 : Int32)), (.ref t)]) (rest := []) (lenOf pd__II_B_V rfl) rfl (Nat.le_of_eq rfl) (hb hby d26_3) (fun _ _ => ⟨rfl, e0, (by decide : 0 + 0 ≤ _), (by decide : 0 + 0 ≤ _)⟩)
  dsimp only [Pt.U, Pt.locs, Pt.cells, Pt.slots] at X1 l1 y1 z1 st1 hQ1
  subst l1 y1 z1
  obtain ⟨rfl, N1q, e1⟩ := hQ1
  have N1 := Fr.app N0 N1q
  refine go_of (B := (T1.setTop (mkF m 6 #[.val (.ref t), .val (.int wc), .val (.int (0 : Int32)), .val (.int (1 : Int32))] []))) (st1) ?_
  refine go_of (B := (T1.setTop (mkF m 10 #[.val (.ref t), .val (.int wc), .val (.int (0 : Int32)), .val (.int (1 : Int32))] [(.int (1 : Int32)), (.int (0 : Int32)), (.int wc), (.ref t)]))) (fun _ kk => XS.aloadN X1.here hx rfl (hb hby d26_6) rfl rfl (XS.iloadN X1.here hx rfl (hb hby d26_7) rfl (XS.iloadN X1.here hx rfl (hb hby d26_8) rfl (XS.iloadN X1.here hx rfl (hb hby d26_9) rfl kk)))) ?_
  obtain ⟨_, _, ⟨T2, L2, k2, n2⟩, -, X2, ⟨Lc2, hQ2, l2, y2, z2⟩, st2⟩ := Jvm.LawKit.callS X1 hx (y := MN22) hown (mvT hZ (wd 130 rfl)) (mvT hZ (wd 131 rfl)) (mvT hZ (wd 77 rfl)) (mvT hZ (wd 132 rfl)) (by decide) (backOf (W := 0) (ucu_1 l Z a0 hw [] t wc c0 k h0 n0 (by omega) O SU V hc0) hZ (wd 132 rfl) (wd 77 rfl) (by decide) (by decide)) (g := (mkF m 10 #[.val (.ref t), .val (.int wc), .val (.int (0 : Int32)), .val (.int (1 : Int32))] [(.int (1 : Int32)), (.int (0 : Int32)), (.int wc), (.ref t)])) rfl (by rw [hml]; rfl) (argsL := [(.ref t), (.int wc), (.int (0 : Int32)), (.int (1 : Int32))]) (rest := []) (lenOf pd___BIII_I rfl) rfl (Nat.le_of_eq rfl) (hb hby d26_10) (fun _ _ => ⟨rfl, e1, (by decide : 0 + 0 ≤ _), (by decide : 0 + 0 ≤ _)⟩)
  dsimp only [Pt.U, Pt.locs, Pt.cells, Pt.slots] at X2 l2 y2 z2 st2 hQ2
  subst l2 y2 z2
  obtain ⟨r2, rfl, hr2, N2q, e2⟩ := hQ2
  have N2 := Fr.app N1 N2q
  refine go_of (B := (T2.setTop (mkF m 13 #[.val (.ref t), .val (.int wc), .val (.int (0 : Int32)), .val (.int (1 : Int32))] [(.int r2)]))) (st2) ?_
  refine go_end X2 (v := some (.int r2)) (fun h => by rw [Bd.returns] at h; cases h) Bd.notSynchronized (by decide) (by decide) (Q := (Q_uic_1 Z t wc c0 k gF h0 n0)) ?_ (fun fs hr => own_retI X2 hx Bd.returns (hb hby d26_13) hr)
  unfold Q_uic_1
  try rw [e2]
  exact ⟨_, rfl, hr2, N2, rfl⟩
theorem d25_0 : decode jdk_52_method_40_code 0 = .ok (.iload_n 2, 1) := by decide +kernel
theorem d25_1 : decode jdk_52_method_40_code 1 = .ok (.iconst 0, 1) := by decide +kernel
theorem d25_2 : decode jdk_52_method_40_code 2 = .ok (.invokestatic 224, 3) := by decide +kernel
theorem d25_5 : decode jdk_52_method_40_code 5 = .ok (.istore_n 2, 1) := by decide +kernel
theorem d25_6 : decode jdk_52_method_40_code 6 = .ok (.iload_n 3, 1) := by decide +kernel
theorem d25_7 : decode jdk_52_method_40_code 7 = .ok (.aload_n 0, 1) := by decide +kernel
theorem d25_8 : decode jdk_52_method_40_code 8 = .ok (.arraylength, 1) := by decide +kernel
theorem d25_9 : decode jdk_52_method_40_code 9 = .ok (.iconst 1, 1) := by decide +kernel
theorem d25_10 : decode jdk_52_method_40_code 10 = .ok (.ishr, 1) := by decide +kernel
theorem d25_11 : decode jdk_52_method_40_code 11 = .ok (.invokestatic 183, 3) := by decide +kernel
theorem d25_14 : decode jdk_52_method_40_code 14 = .ok (.istore_n 3, 1) := by decide +kernel
theorem d25_15 : decode jdk_52_method_40_code 15 = .ok (.iload_n 2, 1) := by decide +kernel
theorem d25_16 : decode jdk_52_method_40_code 16 = .ok (.iload_n 3, 1) := by decide +kernel
theorem d25_17 : decode jdk_52_method_40_code 17 = .ok (.if_icmp .lt 5, 3) := by decide +kernel
theorem d25_22 : decode jdk_52_method_40_code 22 = .ok (.iload_n 1, 1) := by decide +kernel
theorem d25_23 : decode jdk_52_method_40_code 23 = .ok (.ldc 227, 2) := by decide +kernel
theorem d25_25 : decode jdk_52_method_40_code 25 = .ok (.if_icmp .ge 11, 3) := by decide +kernel
theorem d25_28 : decode jdk_52_method_40_code 28 = .ok (.aload_n 0, 1) := by decide +kernel
theorem d25_29 : decode jdk_52_method_40_code 29 = .ok (.iload_n 1, 1) := by decide +kernel
theorem d25_30 : decode jdk_52_method_40_code 30 = .ok (.iload_n 2, 1) := by decide +kernel
theorem d25_31 : decode jdk_52_method_40_code 31 = .ok (.iload_n 3, 1) := by decide +kernel
theorem d25_32 : decode jdk_52_method_40_code 32 = .ok (.invokestatic 228, 3) := by decide +kernel
theorem d25_35 : decode jdk_52_method_40_code 35 = .ok (.ireturn, 1) := by decide +kernel
def Q_uio_1 (Z : State) (t : Addr) (wc : Int32) (c0 : Int32) (k : ClassId) (gF : Value) (h0 : Heap) (n0 : Nat) (v : Option Value) (h : Heap) (L : List Loc) : Prop := ∃ r : Int32, v = some (.int r) ∧ (r < 0 ↔ own_hs wc [c0] = false) ∧ Fr n0 L ∧ h = h0
theorem ef_uio_1 (m : MethodId) (t : Addr) (wc : Int32)  : entryFrame m #[(.ref t), (.int wc), (.int (0 : Int32)), (.int (1 : Int32))] 4 = mkF m 0 #[.val (.ref t), .val (.int wc), .val (.int (0 : Int32)), .val (.int (1 : Int32))] [] := by first | (simp [entryFrame, mkF, argsToLocals, Value.category]; done) | rfl
theorem uio_1 (l : Launch) (Z : State) (a0 : Array Value) (hw : TW a0 Z) (ws : List Cond) (t : Addr) (wc : Int32) (c0 : Int32) (k : ClassId) (gF : Value) (h0 : Heap) (n0 : Nat) (Z0 : n0 ≤ h0.size) (O : Old Z n0 h0) (SU : US Z) (V : Arv Z h0 t k .byte 2 [(.int (own_b0 c0)), (.int (own_b1 c0))] (.int 0)) (hc0 : ¬ c0 < 0 ∧ ¬ (65535 : Int32) < c0) (SF : Sta Z Z.heap "jdk/internal/util/Preconditions" "SIOOBE_FORMATTER" "Ljava/util/function/BiFunction;" gF) (rgF : gF.isRef = true) (hwc : ¬ wc < 0 ∧ ¬ (255 : Int32) < wc) :
    own_MF l Z MN20 jdk_52_method_40_code 4 (some .int) ws (own_R 4 0 0 58) #[(.ref t), (.int wc), (.int (0 : Int32)), (.int (1 : Int32))] h0 (Q_uio_1 Z t wc c0 k gF h0 n0) := by
  have wd := @own_wd _ _ hw
  refine MetFree.of_bodySF (plainFor_of_name pn_java_lang_StringUTF16) hisR ?_
  intro p e s m args below meth c s₁ Bd hml0 hP hK
  obtain ⟨rfl, hZ, hh⟩ := hP
  have hx := Bd.exec
  have hby := Bd.bytes
  have hml : c.maxLocals = 4 := hml0
  have hown : s.vm.findClass "java/lang/StringUTF16" = some m.cls := findClass_of_methodNamed Bd.named
  have hnm := (name_of_methodNamed Bd.named Bd.method).1
  have X0 : Stand p l e (own_R 4 0 0 58) s m #[(.ref t), (.int wc), (.int (0 : Int32)), (.int (1 : Int32))] below meth c s₁ [] 0 0 := Stand.of_body Bd
  have e0 : s₁.heap = h0 := by rw [← hh, Bd.state]; rfl
  have N0 := Fr.nil n0
  refine go_of (A := s₁.setTop (entryFrame m #[(.ref t), (.int wc), (.int (0 : Int32)), (.int (1 : Int32))] 4)) (B := s₁.setTop (mkF m 0 #[.val (.ref t), .val (.int wc), .val (.int (0 : Int32)), .val (.int (1 : Int32))] [])) (fun _ kk' => castTop (ef_uio_1 m t wc) kk') ?_
  refine go_of (B := (s₁.setTop (mkF m 2 #[.val (.ref t), .val (.int wc), .val (.int (0 : Int32)), .val (.int (1 : Int32))] [(.int (0 : Int32)), (.int (0 : Int32))]))) (fun _ kk => XS.iloadN X0.here hx rfl (hb hby d25_0) rfl (XS.iconst X0.here hx rfl (hb hby d25_1) kk)) ?_
  obtain ⟨_, _, ⟨T1, L1, k1, n1⟩, -, X1, ⟨Lc1, hQ1, l1, y1, z1⟩, st1⟩ := Jvm.LawKit.callS X0 hx (y := MN3) hown (mvT hZ (wd 110 rfl)) (mvT hZ (wd 66 rfl)) (mvT hZ (wd 67 rfl)) (mvT hZ (wd 68 rfl)) (by decide) (backOf (W := 0) (v_max l Z a0 hw [] (0 : Int32) (0 : Int32) (0 : Int32) h0 n0 (by omega) (by decide)) hZ (wd 68 rfl) (wd 67 rfl) (by decide) (by decide)) (g := (mkF m 2 #[.val (.ref t), .val (.int wc), .val (.int (0 : Int32)), .val (.int (1 : Int32))] [(.int (0 : Int32)), (.int (0 : Int32))])) rfl (by rw [hml]; rfl) (argsL := [(.int (0 : Int32)), (.int (0 : Int32))]) (rest := []) (lenOf pd__II_I rfl) rfl (Nat.le_of_eq rfl) (hb hby d25_2) (fun _ _ => ⟨rfl, e0, (by decide : 0 + 0 ≤ _), (by decide : 0 + 0 ≤ _)⟩)
  dsimp only [Pt.U, Pt.locs, Pt.cells, Pt.slots] at X1 l1 y1 z1 st1 hQ1
  subst l1 y1 z1
  obtain ⟨rfl, N1q, e1⟩ := hQ1
  have N1 := Fr.app N0 N1q
  refine go_of (B := (T1.setTop (mkF m 5 #[.val (.ref t), .val (.int wc), .val (.int (0 : Int32)), .val (.int (1 : Int32))] [(.int (0 : Int32))]))) (st1) ?_
  refine go_of (B := (T1.setTop (mkF m 8 #[.val (.ref t), .val (.int wc), .val (.int (0 : Int32)), .val (.int (1 : Int32))] [(.ref t), (.int (1 : Int32))]))) (fun _ kk => XS.istoreN X1.here hx rfl (hb hby d25_5) rfl rfl (XS.iloadN X1.here hx rfl (hb hby d25_6) rfl (XS.aloadN X1.here hx rfl (hb hby d25_7) rfl rfl kk))) ?_
  obtain ⟨cl2, Ar2, q2, Sz2, Nn2, Hh2, G2⟩ := id (V)
  have ln2 := len_of Sz2 Nn2
  refine go_of (B := (T1.setTop (mkF m 9 #[.val (.ref t), .val (.int wc), .val (.int (0 : Int32)), .val (.int (1 : Int32))] [(.int (2 : Int32)), (.int (1 : Int32))]))) (fun _ kk => X1.arraylength hx (by rw [e1]; exact Ar2.1) (State.isArrayOf_alike hZ.alike Ar2.2.1) (g := (mkF m 8 #[.val (.ref t), .val (.int wc), .val (.int (0 : Int32)), .val (.int (1 : Int32))] [(.ref t), (.int (1 : Int32))])) rfl rfl (hb hby d25_8) _ (by rw [ln2]; exact kk)) ?_
  refine go_of (B := (T1.setTop (mkF m 11 #[.val (.ref t), .val (.int wc), .val (.int (0 : Int32)), .val (.int (1 : Int32))] [(.int (1 : Int32)), (.int (1 : Int32))]))) (fun _ kk => XS.iconst X1.here hx rfl (hb hby d25_9) (XS.ishr X1.here hx rfl (hb hby d25_10) rfl kk)) ?_
  obtain ⟨_, _, ⟨T3, L3, k3, n3⟩, -, X3, ⟨Lc3, hQ3, l3, y3, z3⟩, st3⟩ := Jvm.LawKit.callS X1 hx (y := MN4) hown (mvT hZ (wd 111 rfl)) (mvT hZ (wd 70 rfl)) (mvT hZ (wd 67 rfl)) (mvT hZ (wd 71 rfl)) (by decide) (backOf (W := 0) (v_min l Z a0 hw [] (1 : Int32) (1 : Int32) (1 : Int32) h0 n0 (by omega) (by decide)) hZ (wd 71 rfl) (wd 67 rfl) (by decide) (by decide)) (g := (mkF m 11 #[.val (.ref t), .val (.int wc), .val (.int (0 : Int32)), .val (.int (1 : Int32))] [(.int (1 : Int32)), (.int (1 : Int32))])) rfl (by rw [hml]; rfl) (argsL := [(.int (1 : Int32)), (.int (1 : Int32))]) (rest := []) (lenOf pd__II_I rfl) rfl (Nat.le_of_eq rfl) (hb hby d25_11) (fun _ _ => ⟨rfl, e1, (by decide : 0 + 0 ≤ _), (by decide : 0 + 0 ≤ _)⟩)
  dsimp only [Pt.U, Pt.locs, Pt.cells, Pt.slots] at X3 l3 y3 z3 st3 hQ3
  subst l3 y3 z3
  obtain ⟨rfl, N3q, e3⟩ := hQ3
  have N3 := Fr.app N1 N3q
  refine go_of (B := (T3.setTop (mkF m 14 #[.val (.ref t), .val (.int wc), .val (.int (0 : Int32)), .val (.int (1 : Int32))] [(.int (1 : Int32))]))) (st3) ?_
  refine go_of (B := (T3.setTop (mkF m 25 #[.val (.ref t), .val (.int wc), .val (.int (0 : Int32)), .val (.int (1 : Int32))] [(.int (65536 : Int32)), (.int wc)]))) (fun _ kk => XS.istoreN X3.here hx rfl (hb hby d25_14) rfl rfl (XS.iloadN X3.here hx rfl (hb hby d25_15) rfl (XS.iloadN X3.here hx rfl (hb hby d25_16) rfl (XS.icmpYes X3.here hx rfl (pc0 := 17) (pc' := 22) rfl (hb hby d25_17) rfl (tlt (by decide : (0 : Int32) < (1 : Int32))).1 (by decide) (by decide) (XS.iloadN X3.here hx rfl (hb hby d25_22) rfl (X3.ldcInt hx hown (mvT hZ (wd 112 rfl)) (g := (mkF m 23 #[.val (.ref t), .val (.int wc), .val (.int (0 : Int32)), .val (.int (1 : Int32))] [(.int wc)])) rfl (hb hby d25_23) _ kk)))))) ?_
  refine go_of (B := (T3.setTop (mkF m 32 #[.val (.ref t), .val (.int wc), .val (.int (0 : Int32)), .val (.int (1 : Int32))] [(.int (1 : Int32)), (.int (0 : Int32)), (.int wc), (.ref t)]))) (fun _ kk => XS.icmpNo X3.here hx rfl (hb hby d25_25) rfl (tlt (own_lt64 hwc)).2.1 (XS.aloadN X3.here hx rfl (hb hby d25_28) rfl rfl (XS.iloadN X3.here hx rfl (hb hby d25_29) rfl (XS.iloadN X3.here hx rfl (hb hby d25_30) rfl (XS.iloadN X3.here hx rfl (hb hby d25_31) rfl kk))))) ?_
  obtain ⟨_, _, ⟨T4, L4, k4, n4⟩, -, X4, ⟨Lc4, hQ4, l4, y4, z4⟩, st4⟩ := Jvm.LawKit.callS X3 hx (y := MN21) hown (mvT hZ (wd 113 rfl)) (mvT hZ (wd 114 rfl)) (mvT hZ (wd 77 rfl)) (mvT hZ (wd 115 rfl)) (by decide) (backOf (W := 0) (uic_1 l Z a0 hw [] t wc c0 k gF h0 n0 (by omega) O SU V hc0 SF rgF) hZ (wd 115 rfl) (wd 77 rfl) (by decide) (by decide)) (g := (mkF m 32 #[.val (.ref t), .val (.int wc), .val (.int (0 : Int32)), .val (.int (1 : Int32))] [(.int (1 : Int32)), (.int (0 : Int32)), (.int wc), (.ref t)])) rfl (by rw [hml]; rfl) (argsL := [(.ref t), (.int wc), (.int (0 : Int32)), (.int (1 : Int32))]) (rest := []) (lenOf pd___BIII_I rfl) rfl (Nat.le_of_eq rfl) (hb hby d25_32) (fun _ _ => ⟨rfl, e3, (by decide : 0 + 0 ≤ _), (by decide : 0 + 0 ≤ _)⟩)
  dsimp only [Pt.U, Pt.locs, Pt.cells, Pt.slots] at X4 l4 y4 z4 st4 hQ4
  subst l4 y4 z4
  obtain ⟨r4, rfl, hr4, N4q, e4⟩ := hQ4
  have N4 := Fr.app N3 N4q
  refine go_of (B := (T4.setTop (mkF m 35 #[.val (.ref t), .val (.int wc), .val (.int (0 : Int32)), .val (.int (1 : Int32))] [(.int r4)]))) (st4) ?_
  refine go_end X4 (v := some (.int r4)) (fun h => by rw [Bd.returns] at h; cases h) Bd.notSynchronized (by decide) (by decide) (Q := (Q_uio_1 Z t wc c0 k gF h0 n0)) ?_ (fun fs hr => own_retI X4 hx Bd.returns (hb hby d25_35) hr)
  unfold Q_uio_1
  try rw [e4]
  exact ⟨_, rfl, hr4, N4, rfl⟩
theorem d7_23 : decode jdk_42_method_80_code 23 = .ok (.aload_n 0, 1) := by decide +kernel
theorem d7_24 : decode jdk_42_method_80_code 24 = .ok (.getfield 9, 3) := by decide +kernel
theorem d7_27 : decode jdk_42_method_80_code 27 = .ok (.iload_n 1, 1) := by decide +kernel
theorem d7_28 : decode jdk_42_method_80_code 28 = .ok (.iload_n 2, 1) := by decide +kernel
theorem d7_29 : decode jdk_42_method_80_code 29 = .ok (.aload_n 0, 1) := by decide +kernel
theorem d7_30 : decode jdk_42_method_80_code 30 = .ok (.invokevirtual 505, 3) := by decide +kernel
theorem d7_33 : decode jdk_42_method_80_code 33 = .ok (.invokestatic 640, 3) := by decide +kernel
def Q_si2l_1 (Z : State) (a : Addr) (wc : Int32) (c0 : Int32) (gC : Int32) (gF : Value) (h0 : Heap) (n0 : Nat) (v : Option Value) (h : Heap) (L : List Loc) : Prop := ∃ r : Int32, v = some (.int r) ∧ (r < 0 ↔ own_hs wc [c0] = false) ∧ Fr n0 L ∧ h = h0
theorem ef_si2l_1 (m : MethodId) (a : Addr) (wc : Int32)  : entryFrame m #[(.ref a), (.int wc), (.int (0 : Int32))] 3 = mkF m 0 #[.val (.ref a), .val (.int wc), .val (.int (0 : Int32))] [] := by first | (simp [entryFrame, mkF, argsToLocals, Value.category]; done) | rfl
theorem si2l_1 (l : Launch) (Z : State) (a0 : Array Value) (hw : TW a0 Z) (ws : List Cond) (a : Addr) (wc : Int32) (c0 : Int32) (gC : Int32) (gF : Value) (h0 : Heap) (n0 : Nat) (Z0 : n0 ≤ h0.size) (O : Old Z n0 h0) (SC : Sta Z Z.heap "java/lang/String" "COMPACT_STRINGS" "Z" (.int gC)) (hgC : ¬ gC = (0 : Int32)) (S : Str Z h0 a 1 [c0]) (SU : US Z) (SF : Sta Z Z.heap "jdk/internal/util/Preconditions" "SIOOBE_FORMATTER" "Ljava/util/function/BiFunction;" gF) (rgF : gF.isRef = true) (hwc : ¬ wc < 0 ∧ ¬ (255 : Int32) < wc) :
    own_MF l Z MN9 jdk_42_method_80_code 3 (some .int) ws (own_R 5 0 0 73) #[(.ref a), (.int wc), (.int (0 : Int32))] h0 (Q_si2l_1 Z a wc c0 gC gF h0 n0) := by
  have wd := @own_wd _ _ hw
  refine MetFree.of_bodySF (plainFor_of_name pn_java_lang_String) hisR ?_
  intro p e s m args below meth c s₁ Bd hml0 hP hK
  obtain ⟨rfl, hZ, hh⟩ := hP
  have hx := Bd.exec
  have hby := Bd.bytes
  have hml : c.maxLocals = 3 := hml0
  have hown : s.vm.findClass "java/lang/String" = some m.cls := findClass_of_methodNamed Bd.named
  have hnm := (name_of_methodNamed Bd.named Bd.method).1
  have X0 : Stand p l e (own_R 5 0 0 73) s m #[(.ref a), (.int wc), (.int (0 : Int32))] below meth c s₁ [] 0 0 := Stand.of_body Bd
  have e0 : s₁.heap = h0 := by rw [← hh, Bd.state]; rfl
  have N0 := Fr.nil n0
  obtain ⟨t, k, Ea, Fc, Fv, Va, hcs⟩ := (id S)
  have lta := own_nlt (Ea.lt)
  have ltt := own_nlt (Va.lt)
  refine go_of (A := s₁.setTop (entryFrame m #[(.ref a), (.int wc), (.int (0 : Int32))] 3)) (B := s₁.setTop (mkF m 0 #[.val (.ref a), .val (.int wc), .val (.int (0 : Int32))] [])) (fun _ kk' => castTop (ef_si2l_1 m a wc) kk') ?_
  refine go_of (B := (s₁.setTop (mkF m 1 #[.val (.ref a), .val (.int wc), .val (.int (0 : Int32))] [(.ref a)]))) (fun _ kk => XS.aloadN X0.here hx rfl (hb hby d7_0) rfl rfl kk) ?_
  obtain ⟨cq1, kq1, q1a, q1b, q1c⟩ := isOf hZ e0 Ea
  obtain ⟨_, _, ⟨T1, L1, k1, n1⟩, -, X1, ⟨Lc1, hQ1, l1, y1, z1⟩, st1⟩ := X0.virtualBack hx (y := MN10) (z := MN10) hown (mvT hZ (wd 42 rfl)) (mvT hZ (wd 43 rfl)) (notFace_of_selects (args := #[]) (mvT hZ (wd 45 rfl))) (mvT hZ (wd 45 rfl)) (mvT hZ (wd 44 rfl)) (by decide) (backOf (W := 0) (str_latin l Z a0 hw [] a gC h0 n0 (by omega) O SC hgC Fc) hZ (wd 46 rfl) (wd 9 rfl) (by decide) (by decide)) q1a q1c (g := (mkF m 1 #[.val (.ref a), .val (.int wc), .val (.int (0 : Int32))] [(.ref a)])) rfl (by rw [hml]; rfl) (Steps.refl _) (argsL := []) (rest := []) (lenOf pd___Z rfl) rfl (Nat.le_of_eq rfl) (hb hby d7_1) (fun _ _ => ⟨rfl, e0, (by decide : 0 + 0 ≤ _), (by decide : 0 + 0 ≤ _)⟩)
  dsimp only [Pt.U, Pt.locs, Pt.cells, Pt.slots] at X1 l1 y1 z1 st1 hQ1
  subst l1 y1 z1
  obtain ⟨rfl, N1q, e1⟩ := hQ1
  have N1 := Fr.app N0 N1q
  refine go_tr (B := (T1.setTop (mkF m 4 #[.val (.ref a), .val (.int wc), .val (.int (0 : Int32))] [(.int (1 : Int32))]))) (st1) ?_
  refine go_of (B := (T1.setTop (mkF m 8 #[.val (.ref a), .val (.int wc), .val (.int (0 : Int32))] [(.ref a)]))) (fun _ kk => XS.ifNo X1.here hx rfl (hb hby d7_4) rfl ((if0 _ _).trans (feq (by decide : ¬ ((1 : Int32) = (0 : Int32)))).1) (XS.aloadN X1.here hx rfl (hb hby d7_7) rfl rfl kk)) ?_
  obtain ⟨T2, X2, e2, st2⟩ := getF X1 hx hZ hown (host := "") (Or.inl (wd 26 rfl)) Via.refl e1 Fv (g := (mkF m 8 #[.val (.ref a), .val (.int wc), .val (.int (0 : Int32))] [(.ref a)])) rfl rfl (hb hby d7_8)
  refine go_of (B := (T2.setTop (mkF m 11 #[.val (.ref a), .val (.int wc), .val (.int (0 : Int32))] [(.ref t)]))) (st2) ?_
  refine go_of (B := (T2.setTop (mkF m 14 #[.val (.ref a), .val (.int wc), .val (.int (0 : Int32))] [(.ref a), (.int (0 : Int32)), (.int wc), (.ref t)]))) (fun _ kk => XS.iloadN X2.here hx rfl (hb hby d7_11) rfl (XS.iloadN X2.here hx rfl (hb hby d7_12) rfl (XS.aloadN X2.here hx rfl (hb hby d7_13) rfl rfl kk))) ?_
  obtain ⟨cq3, kq3, q3a, q3b, q3c⟩ := isOf hZ e2 Ea
  obtain ⟨_, _, ⟨T3, L3, k3, n3⟩, -, X3, ⟨Lc3, hQ3, l3, y3, z3⟩, st3⟩ := X2.virtualBack hx (y := MN11) (z := MN11) hown (mvT hZ (wd 48 rfl)) (mvT hZ (wd 49 rfl)) (notFace_of_selects (args := #[]) (mvT hZ (wd 51 rfl))) (mvT hZ (wd 51 rfl)) (mvT hZ (wd 50 rfl)) (by decide) (backOf (W := 3) (u_len l Z a0 hw [] a (1 : Int32) (2 : Int32) [c0] gC h0 n0 (by omega) O SC hgC (Or.inl S) (by decide)) hZ (wd 52 rfl) (wd 9 rfl) (by decide) (by decide)) q3a q3c (g := (mkF m 14 #[.val (.ref a), .val (.int wc), .val (.int (0 : Int32))] [(.ref a), (.int (0 : Int32)), (.int wc), (.ref t)])) rfl (by rw [hml]; rfl) (Steps.refl _) (argsL := []) (rest := [(.int (0 : Int32)), (.int wc), (.ref t)]) (lenOf pd___I rfl) rfl (Nat.le_of_eq rfl) (hb hby d7_14) (fun _ _ => ⟨rfl, e2, (by decide : 0 + 0 ≤ _), (by decide : 0 + 0 ≤ _)⟩)
  dsimp only [Pt.U, Pt.locs, Pt.cells, Pt.slots] at X3 l3 y3 z3 st3 hQ3
  subst l3 y3 z3
  obtain ⟨rfl, N3q, e3⟩ := hQ3
  have N3 := Fr.app N1 N3q
  refine go_tr (B := (T3.setTop (mkF m 17 #[.val (.ref a), .val (.int wc), .val (.int (0 : Int32))] [(.int (1 : Int32)), (.int (0 : Int32)), (.int wc), (.ref t)]))) (st3) ?_
  obtain ⟨_, _, ⟨T4, L4, k4, n4⟩, -, X4, ⟨Lc4, hQ4, l4, y4, z4⟩, st4⟩ := Jvm.LawKit.callS X3 hx (y := MN13) hown (mvT hZ (wd 58 rfl)) (mvT hZ (wd 59 rfl)) (mvT hZ (wd 60 rfl)) (mvT hZ (wd 61 rfl)) (by decide) (backOf (W := 0) (lio_1 l Z a0 hw [] t wc (own_b8 c0) k h0 n0 (by omega) Va hwc) hZ (wd 61 rfl) (wd 60 rfl) (by decide) (by decide)) (g := (mkF m 17 #[.val (.ref a), .val (.int wc), .val (.int (0 : Int32))] [(.int (1 : Int32)), (.int (0 : Int32)), (.int wc), (.ref t)])) rfl (by rw [hml]; rfl) (argsL := [(.ref t), (.int wc), (.int (0 : Int32)), (.int (1 : Int32))]) (rest := []) (lenOf pd___BIII_I rfl) rfl (Nat.le_of_eq rfl) (hb hby d7_17) (fun _ _ => ⟨rfl, e3, (by decide : 0 + 0 ≤ _), (by decide : 0 + 0 ≤ _)⟩)
  dsimp only [Pt.U, Pt.locs, Pt.cells, Pt.slots] at X4 l4 y4 z4 st4 hQ4
  subst l4 y4 z4
  obtain ⟨r4, rfl, hr4, N4q, e4⟩ := hQ4
  have N4 := Fr.app N3 N4q
  refine go_of (B := (T4.setTop (mkF m 20 #[.val (.ref a), .val (.int wc), .val (.int (0 : Int32))] [(.int r4)]))) (st4) ?_
  refine go_of (B := (T4.setTop (mkF m 36 #[.val (.ref a), .val (.int wc), .val (.int (0 : Int32))] [(.int r4)]))) (fun _ kk => XS.goto X4.here hx rfl (pc0 := 20) (pc' := 36) rfl (hb hby d7_20) (by decide) (by decide) kk) ?_
  refine go_end X4 (v := some (.int r4)) (fun h => by rw [Bd.returns] at h; cases h) Bd.notSynchronized (by decide) (by decide) (Q := (Q_si2l_1 Z a wc c0 gC gF h0 n0)) ?_ (fun fs hr => own_retI X4 hx Bd.returns (hb hby d7_36) hr)
  unfold Q_si2l_1
  try rw [e4]
  exact ⟨_, rfl, hr4.trans (iff_of_eq (congrArg (fun b => b = false) (own_hsb wc hwc [c0] hcs))), N4, rfl⟩
def Q_si2w_1 (Z : State) (a : Addr) (wc : Int32) (c0 : Int32) (gC : Int32) (gF : Value) (h0 : Heap) (n0 : Nat) (v : Option Value) (h : Heap) (L : List Loc) : Prop := ∃ r : Int32, v = some (.int r) ∧ (r < 0 ↔ own_hs wc [c0] = false) ∧ Fr n0 L ∧ h = h0
theorem ef_si2w_1 (m : MethodId) (a : Addr) (wc : Int32)  : entryFrame m #[(.ref a), (.int wc), (.int (0 : Int32))] 3 = mkF m 0 #[.val (.ref a), .val (.int wc), .val (.int (0 : Int32))] [] := by first | (simp [entryFrame, mkF, argsToLocals, Value.category]; done) | rfl
theorem si2w_1 (l : Launch) (Z : State) (a0 : Array Value) (hw : TW a0 Z) (ws : List Cond) (a : Addr) (wc : Int32) (c0 : Int32) (gC : Int32) (gF : Value) (h0 : Heap) (n0 : Nat) (Z0 : n0 ≤ h0.size) (O : Old Z n0 h0) (SC : Sta Z Z.heap "java/lang/String" "COMPACT_STRINGS" "Z" (.int gC)) (hgC : ¬ gC = (0 : Int32)) (S : StrW Z h0 a 2 [c0]) (SU : US Z) (SF : Sta Z Z.heap "jdk/internal/util/Preconditions" "SIOOBE_FORMATTER" "Ljava/util/function/BiFunction;" gF) (rgF : gF.isRef = true) (hwc : ¬ wc < 0 ∧ ¬ (255 : Int32) < wc) :
    own_MF l Z MN9 jdk_42_method_80_code 3 (some .int) ws (own_R 5 0 0 73) #[(.ref a), (.int wc), (.int (0 : Int32))] h0 (Q_si2w_1 Z a wc c0 gC gF h0 n0) := by
  have wd := @own_wd _ _ hw
  refine MetFree.of_bodySF (plainFor_of_name pn_java_lang_String) hisR ?_
  intro p e s m args below meth c s₁ Bd hml0 hP hK
  obtain ⟨rfl, hZ, hh⟩ := hP
  have hx := Bd.exec
  have hby := Bd.bytes
  have hml : c.maxLocals = 3 := hml0
  have hown : s.vm.findClass "java/lang/String" = some m.cls := findClass_of_methodNamed Bd.named
  have hnm := (name_of_methodNamed Bd.named Bd.method).1
  have X0 : Stand p l e (own_R 5 0 0 73) s m #[(.ref a), (.int wc), (.int (0 : Int32))] below meth c s₁ [] 0 0 := Stand.of_body Bd
  have e0 : s₁.heap = h0 := by rw [← hh, Bd.state]; rfl
  have N0 := Fr.nil n0
  obtain ⟨t, k, Ea, Fc, Fv, Va, hcs⟩ := id S
  have hc0 : ¬ c0 < 0 ∧ ¬ (65535 : Int32) < c0 := hcs c0 (List.mem_of_getElem? (i := 0) rfl)
  refine go_of (A := s₁.setTop (entryFrame m #[(.ref a), (.int wc), (.int (0 : Int32))] 3)) (B := s₁.setTop (mkF m 0 #[.val (.ref a), .val (.int wc), .val (.int (0 : Int32))] [])) (fun _ kk' => castTop (ef_si2w_1 m a wc) kk') ?_
  refine go_of (B := (s₁.setTop (mkF m 1 #[.val (.ref a), .val (.int wc), .val (.int (0 : Int32))] [(.ref a)]))) (fun _ kk => XS.aloadN X0.here hx rfl (hb hby d7_0) rfl rfl kk) ?_
  obtain ⟨cq1, kq1, q1a, q1b, q1c⟩ := isOf hZ e0 Ea
  obtain ⟨_, _, ⟨T1, L1, k1, n1⟩, -, X1, ⟨Lc1, hQ1, l1, y1, z1⟩, st1⟩ := X0.virtualBack hx (y := MN10) (z := MN10) hown (mvT hZ (wd 42 rfl)) (mvT hZ (wd 43 rfl)) (notFace_of_selects (args := #[]) (mvT hZ (wd 45 rfl))) (mvT hZ (wd 45 rfl)) (mvT hZ (wd 44 rfl)) (by decide) (backOf (W := 0) (u_lat l Z a0 hw [] a gC h0 n0 (by omega) O SC hgC Fc) hZ (wd 46 rfl) (wd 9 rfl) (by decide) (by decide)) q1a q1c (g := (mkF m 1 #[.val (.ref a), .val (.int wc), .val (.int (0 : Int32))] [(.ref a)])) rfl (by rw [hml]; rfl) (Steps.refl _) (argsL := []) (rest := []) (lenOf pd___Z rfl) rfl (Nat.le_of_eq rfl) (hb hby d7_1) (fun _ _ => ⟨rfl, e0, (by decide : 0 + 0 ≤ _), (by decide : 0 + 0 ≤ _)⟩)
  dsimp only [Pt.U, Pt.locs, Pt.cells, Pt.slots] at X1 l1 y1 z1 st1 hQ1
  subst l1 y1 z1
  obtain ⟨rfl, N1q, e1⟩ := hQ1
  have N1 := Fr.app N0 N1q
  refine go_tr (B := (T1.setTop (mkF m 4 #[.val (.ref a), .val (.int wc), .val (.int (0 : Int32))] [(.int (0 : Int32))]))) (st1) ?_
  refine go_of (B := (T1.setTop (mkF m 24 #[.val (.ref a), .val (.int wc), .val (.int (0 : Int32))] [(.ref a)]))) (fun _ kk => XS.ifYes X1.here hx rfl (pc0 := 4) (pc' := 23) rfl (hb hby d7_4) rfl ((if0 _ _).trans (teq (by decide : (0 : Int32) = (0 : Int32))).1) (by decide) (by decide) (XS.aloadN X1.here hx rfl (hb hby d7_23) rfl rfl kk)) ?_
  obtain ⟨T2, X2, e2, st2⟩ := getF X1 hx hZ hown (host := "") (Or.inl (wd 26 rfl)) Via.refl e1 Fv (g := (mkF m 24 #[.val (.ref a), .val (.int wc), .val (.int (0 : Int32))] [(.ref a)])) rfl rfl (hb hby d7_24)
  refine go_of (B := (T2.setTop (mkF m 27 #[.val (.ref a), .val (.int wc), .val (.int (0 : Int32))] [(.ref t)]))) (st2) ?_
  refine go_of (B := (T2.setTop (mkF m 30 #[.val (.ref a), .val (.int wc), .val (.int (0 : Int32))] [(.ref a), (.int (0 : Int32)), (.int wc), (.ref t)]))) (fun _ kk => XS.iloadN X2.here hx rfl (hb hby d7_27) rfl (XS.iloadN X2.here hx rfl (hb hby d7_28) rfl (XS.aloadN X2.here hx rfl (hb hby d7_29) rfl rfl kk))) ?_
  obtain ⟨cq3, kq3, q3a, q3b, q3c⟩ := isOf hZ e2 Ea
  obtain ⟨_, _, ⟨T3, L3, k3, n3⟩, -, X3, ⟨Lc3, hQ3, l3, y3, z3⟩, st3⟩ := X2.virtualBack hx (y := MN11) (z := MN11) hown (mvT hZ (wd 48 rfl)) (mvT hZ (wd 49 rfl)) (notFace_of_selects (args := #[]) (mvT hZ (wd 51 rfl))) (mvT hZ (wd 51 rfl)) (mvT hZ (wd 50 rfl)) (by decide) (backOf (W := 3) (u_len l Z a0 hw [] a (1 : Int32) (2 : Int32) [c0] gC h0 n0 (by omega) O SC hgC (Or.inr S) (by decide)) hZ (wd 52 rfl) (wd 9 rfl) (by decide) (by decide)) q3a q3c (g := (mkF m 30 #[.val (.ref a), .val (.int wc), .val (.int (0 : Int32))] [(.ref a), (.int (0 : Int32)), (.int wc), (.ref t)])) rfl (by rw [hml]; rfl) (Steps.refl _) (argsL := []) (rest := [(.int (0 : Int32)), (.int wc), (.ref t)]) (lenOf pd___I rfl) rfl (Nat.le_of_eq rfl) (hb hby d7_30) (fun _ _ => ⟨rfl, e2, (by decide : 0 + 0 ≤ _), (by decide : 0 + 0 ≤ _)⟩)
  dsimp only [Pt.U, Pt.locs, Pt.cells, Pt.slots] at X3 l3 y3 z3 st3 hQ3
  subst l3 y3 z3
  obtain ⟨rfl, N3q, e3⟩ := hQ3
  have N3 := Fr.app N1 N3q
  refine go_tr (B := (T3.setTop (mkF m 33 #[.val (.ref a), .val (.int wc), .val (.int (0 : Int32))] [(.int (1 : Int32)), (.int (0 : Int32)), (.int wc), (.ref t)]))) (st3) ?_
  obtain ⟨_, _, ⟨T4, L4, k4, n4⟩, -, X4, ⟨Lc4, hQ4, l4, y4, z4⟩, st4⟩ := Jvm.LawKit.callS X3 hx (y := MN20) hown (mvT hZ (wd 107 rfl)) (mvT hZ (wd 108 rfl)) (mvT hZ (wd 77 rfl)) (mvT hZ (wd 109 rfl)) (by decide) (backOf (W := 0) (uio_1 l Z a0 hw [] t wc c0 k gF h0 n0 (by omega) O SU Va hc0 SF rgF hwc) hZ (wd 109 rfl) (wd 77 rfl) (by decide) (by decide)) (g := (mkF m 33 #[.val (.ref a), .val (.int wc), .val (.int (0 : Int32))] [(.int (1 : Int32)), (.int (0 : Int32)), (.int wc), (.ref t)])) rfl (by rw [hml]; rfl) (argsL := [(.ref t), (.int wc), (.int (0 : Int32)), (.int (1 : Int32))]) (rest := []) (lenOf pd___BIII_I rfl) rfl (Nat.le_of_eq rfl) (hb hby d7_33) (fun _ _ => ⟨rfl, e3, (by decide : 0 + 0 ≤ _), (by decide : 0 + 0 ≤ _)⟩)
  dsimp only [Pt.U, Pt.locs, Pt.cells, Pt.slots] at X4 l4 y4 z4 st4 hQ4
  subst l4 y4 z4
  obtain ⟨r4, rfl, hr4, N4q, e4⟩ := hQ4
  have N4 := Fr.app N3 N4q
  refine go_of (B := (T4.setTop (mkF m 36 #[.val (.ref a), .val (.int wc), .val (.int (0 : Int32))] [(.int r4)]))) (st4) ?_
  refine go_end X4 (v := some (.int r4)) (fun h => by rw [Bd.returns] at h; cases h) Bd.notSynchronized (by decide) (by decide) (Q := (Q_si2w_1 Z a wc c0 gC gF h0 n0)) ?_ (fun fs hr => own_retI X4 hx Bd.returns (hb hby d7_36) hr)
  unfold Q_si2w_1
  try rw [e4]
  exact ⟨_, rfl, hr4, N4, rfl⟩
theorem si2_1 (l : Launch) (Z : State) (a0 : Array Value) (hw : ∀ d ∈ tables_1, d.before a0 Z = true) (ws : List Cond) (a : Addr) (wc c0 gC : Int32) (gF : Value) (h0 : Heap) (n0 : Nat) (Z0 : n0 ≤ h0.size) (O : Old Z n0 h0) (SC : Sta Z Z.heap "java/lang/String" "COMPACT_STRINGS" "Z" (.int gC)) (hgC : ¬ gC = (0 : Int32)) (S : StrU Z h0 a 1 2 [c0]) (SU : US Z) (SF : Sta Z Z.heap "jdk/internal/util/Preconditions" "SIOOBE_FORMATTER" "Ljava/util/function/BiFunction;" gF) (rgF : gF.isRef = true) (hwc : ¬ wc < 0 ∧ ¬ (255 : Int32) < wc) :
    MetFree l MN9 (head1 (Jvm.Cond.code MN9 jdk_42_method_80_code 3 (some .int) :: ws) (own_R 5 0 0 73)) (fun aa' U1' => aa' = #[(.ref a), (.int wc), (.int (0 : Int32))] ∧ Z.Warmed39 U1'.vm ∧ U1'.heap = h0) (fun _ _ _ _ _ => True) (fun _ U1' oo' U2' => ∃ vv' LL', oo' = .returned vv' ∧ (Q_si2l_1 Z a wc c0 gC gF h0 n0) vv' U2'.heap LL' ∧ FrameEnd U1' oo' U2' LL' (own_R 5 0 0 73).cells (own_R 5 0 0 73).slots) := by
  rcases S with S | S
  · exact si2l_1 l Z a0 hw ws a wc c0 gC gF h0 n0 Z0 O SC hgC S SU SF rgF hwc
  · exact si2w_1 l Z a0 hw ws a wc c0 gC gF h0 n0 Z0 O SC hgC S SU SF rgF hwc
def Q_si_1 (Z : State) (a : Addr) (wc : Int32) (c0 : Int32) (gC : Int32) (gF : Value) (h0 : Heap) (n0 : Nat) (v : Option Value) (h : Heap) (L : List Loc) : Prop := ∃ r : Int32, v = some (.int r) ∧ (r < 0 ↔ own_hs wc [c0] = false) ∧ Fr n0 L ∧ h = h0
theorem ef_si_1 (m : MethodId) (a : Addr) (wc : Int32)  : entryFrame m #[(.ref a), (.int wc)] 2 = mkF m 0 #[.val (.ref a), .val (.int wc)] [] := by first | (simp [entryFrame, mkF, argsToLocals, Value.category]; done) | rfl
theorem si_1 (l : Launch) (Z : State) (a0 : Array Value) (hw : TW a0 Z) (ws : List Cond) (a : Addr) (wc : Int32) (c0 : Int32) (gC : Int32) (gF : Value) (h0 : Heap) (n0 : Nat) (Z0 : n0 ≤ h0.size) (O : Old Z n0 h0) (SC : Sta Z Z.heap "java/lang/String" "COMPACT_STRINGS" "Z" (.int gC)) (hgC : ¬ gC = (0 : Int32)) (S : StrU Z h0 a 1 2 [c0]) (SU : US Z) (SF : Sta Z Z.heap "jdk/internal/util/Preconditions" "SIOOBE_FORMATTER" "Ljava/util/function/BiFunction;" gF) (rgF : gF.isRef = true) (hwc : ¬ wc < 0 ∧ ¬ (255 : Int32) < wc) :
    own_MF l Z MN8 jdk_42_method_79_code 2 (some .int) ws (own_R 6 0 0 87) #[(.ref a), (.int wc)] h0 (Q_si_1 Z a wc c0 gC gF h0 n0) := by
  have wd := @own_wd _ _ hw
  refine MetFree.of_bodySF (plainFor_of_name pn_java_lang_String) hisR ?_
  intro p e s m args below meth c s₁ Bd hml0 hP hK
  obtain ⟨rfl, hZ, hh⟩ := hP
  have hx := Bd.exec
  have hby := Bd.bytes
  have hml : c.maxLocals = 2 := hml0
  have hown : s.vm.findClass "java/lang/String" = some m.cls := findClass_of_methodNamed Bd.named
  have hnm := (name_of_methodNamed Bd.named Bd.method).1
  have X0 : Stand p l e (own_R 6 0 0 87) s m #[(.ref a), (.int wc)] below meth c s₁ [] 0 0 := Stand.of_body Bd
  have e0 : s₁.heap = h0 := by rw [← hh, Bd.state]; rfl
  have N0 := Fr.nil n0
  refine go_of (A := s₁.setTop (entryFrame m #[(.ref a), (.int wc)] 2)) (B := s₁.setTop (mkF m 0 #[.val (.ref a), .val (.int wc)] [])) (fun _ kk' => castTop (ef_si_1 m a wc) kk') ?_
  refine go_of (B := (s₁.setTop (mkF m 3 #[.val (.ref a), .val (.int wc)] [(.int (0 : Int32)), (.int wc), (.ref a)]))) (fun _ kk => XS.aloadN X0.here hx rfl (hb hby d6_0) rfl rfl (XS.iloadN X0.here hx rfl (hb hby d6_1) rfl (XS.iconst X0.here hx rfl (hb hby d6_2) kk))) ?_
  obtain ⟨cq1, kq1, q1a, q1b, q1c⟩ := isOf hZ e0 S.exa
  obtain ⟨_, _, ⟨T1, L1, k1, n1⟩, -, X1, ⟨Lc1, hQ1, l1, y1, z1⟩, st1⟩ := X0.virtualBack hx (y := MN9) (z := MN9) hown (mvT hZ (wd 37 rfl)) (mvT hZ (wd 38 rfl)) (notFace_of_selects (args := #[]) (mvT hZ (wd 40 rfl))) (mvT hZ (wd 40 rfl)) (mvT hZ (wd 39 rfl)) (by decide) (backOf (W := 0) (si2_1 l Z a0 hw [] a wc c0 gC gF h0 n0 (by omega) O SC hgC S SU SF rgF hwc) hZ (wd 41 rfl) (wd 9 rfl) (by decide) (by decide)) q1a q1c (g := (mkF m 3 #[.val (.ref a), .val (.int wc)] [(.int (0 : Int32)), (.int wc), (.ref a)])) rfl (by rw [hml]; rfl) (Steps.refl _) (argsL := [(.int wc), (.int (0 : Int32))]) (rest := []) (lenOf pd__II_I rfl) rfl (Nat.le_of_eq rfl) (hb hby d6_3) (fun _ _ => ⟨rfl, e0, (by decide : 0 + 0 ≤ _), (by decide : 0 + 0 ≤ _)⟩)
  dsimp only [Pt.U, Pt.locs, Pt.cells, Pt.slots] at X1 l1 y1 z1 st1 hQ1
  subst l1 y1 z1
  obtain ⟨r1, rfl, hr1, N1q, e1⟩ := hQ1
  have N1 := Fr.app N0 N1q
  refine go_tr (B := (T1.setTop (mkF m 6 #[.val (.ref a), .val (.int wc)] [(.int r1)]))) (st1) ?_
  refine go_end X1 (v := some (.int r1)) (fun h => by rw [Bd.returns] at h; cases h) Bd.notSynchronized (by decide) (by decide) (Q := (Q_si_1 Z a wc c0 gC gF h0 n0)) ?_ (fun fs hr => own_retI X1 hx Bd.returns (hb hby d6_6) hr)
  unfold Q_si_1
  try rw [e1]
  exact ⟨_, rfl, hr1, N1, rfl⟩
def Q_isl_1 (Z : State) (a : Addr) (c0 : Int32) (gC : Int32) (gF : Value) (h0 : Heap) (n0 : Nat) (v : Option Value) (h : Heap) (L : List Loc) : Prop := v = some (.int (own_lit [c0])) ∧ Fr n0 L ∧ h = h0
theorem ef_isl_1 (m : MethodId) (a : Addr)  : entryFrame m #[(.ref a)] 1 = mkF m 0 #[.val (.ref a)] [] := by first | (simp [entryFrame, mkF, argsToLocals, Value.category]; done) | rfl
theorem isl_1 (l : Launch) (Z : State) (a0 : Array Value) (hw : TW a0 Z) (ws : List Cond) (a : Addr) (c0 : Int32) (gC : Int32) (gF : Value) (h0 : Heap) (n0 : Nat) (Z0 : n0 ≤ h0.size) (O : Old Z n0 h0) (SC : Sta Z Z.heap "java/lang/String" "COMPACT_STRINGS" "Z" (.int gC)) (hgC : ¬ gC = (0 : Int32)) (S : StrU Z h0 a 1 2 [c0]) (SU : US Z) (SF : Sta Z Z.heap "jdk/internal/util/Preconditions" "SIOOBE_FORMATTER" "Ljava/util/function/BiFunction;" gF) (rgF : gF.isRef = true) :
    own_MF l Z MN0 prog_12_method_3_code 1 (some .boolean) ws (own_R 7 0 0 100) #[(.ref a)] h0 (Q_isl_1 Z a c0 gC gF h0 n0) := by
  have wd := @own_wd _ _ hw
  refine MetFree.of_bodySF (plainFor_of_name pn_com_example_grantline_grantline_Glob) hisR ?_
  intro p e s m args below meth c s₁ Bd hml0 hP hK
  obtain ⟨rfl, hZ, hh⟩ := hP
  have hx := Bd.exec
  have hby := Bd.bytes
  have hml : c.maxLocals = 1 := hml0
  have hown : s.vm.findClass "com/example/grantline/grantline/Glob" = some m.cls := findClass_of_methodNamed Bd.named
  have hnm := (name_of_methodNamed Bd.named Bd.method).1
  have X0 : Stand p l e (own_R 7 0 0 100) s m #[(.ref a)] below meth c s₁ [] 0 0 := Stand.of_body Bd
  have e0 : s₁.heap = h0 := by rw [← hh, Bd.state]; rfl
  have N0 := Fr.nil n0
  refine go_of (A := s₁.setTop (entryFrame m #[(.ref a)] 1)) (B := s₁.setTop (mkF m 0 #[.val (.ref a)] [])) (fun _ kk' => castTop (ef_isl_1 m a) kk') ?_
  refine go_of (B := (s₁.setTop (mkF m 3 #[.val (.ref a)] [(.int (42 : Int32)), (.ref a)]))) (fun _ kk => XS.aloadN X0.here hx rfl (hb hby d5_0) rfl rfl (XS.bipush X0.here hx rfl (hb hby d5_1) kk)) ?_
  obtain ⟨cq1, kq1, q1a, q1b, q1c⟩ := isOf hZ e0 S.exa
  obtain ⟨_, _, ⟨T1, L1, k1, n1⟩, -, X1, ⟨Lc1, hQ1, l1, y1, z1⟩, st1⟩ := X0.virtualBack hx (y := MN8) (z := MN8) hown (mvT hZ (wd 32 rfl)) (mvT hZ (wd 33 rfl)) (notFace_of_selects (args := #[]) (mvT hZ (wd 35 rfl))) (mvT hZ (wd 35 rfl)) (mvT hZ (wd 34 rfl)) (by decide) (backOf (W := 0) (si_1 l Z a0 hw [] a (42 : Int32) c0 gC gF h0 n0 (by omega) O SC hgC S SU SF rgF (by decide)) hZ (wd 36 rfl) (wd 9 rfl) (by decide) (by decide)) q1a q1c (g := (mkF m 3 #[.val (.ref a)] [(.int (42 : Int32)), (.ref a)])) rfl (by rw [hml]; rfl) (Steps.refl _) (argsL := [(.int (42 : Int32))]) (rest := []) (lenOf pd__I_I rfl) rfl (Nat.le_of_eq rfl) (hb hby d5_3) (fun _ _ => ⟨rfl, e0, (by decide : 0 + 0 ≤ _), (by decide : 0 + 0 ≤ _)⟩)
  dsimp only [Pt.U, Pt.locs, Pt.cells, Pt.slots] at X1 l1 y1 z1 st1 hQ1
  subst l1 y1 z1
  obtain ⟨r1, rfl, hr1, N1q, e1⟩ := hQ1
  have N1 := Fr.app N0 N1q
  refine go_tr (B := (T1.setTop (mkF m 6 #[.val (.ref a)] [(.int r1)]))) (st1) ?_
  by_cases hcc2 : r1 < (0 : Int32)
  · refine go_of (B := (T1.setTop (mkF m 12 #[.val (.ref a)] [(.int (63 : Int32)), (.ref a)]))) (fun _ kk => XS.ifNo X1.here hx rfl (hb hby d5_6) rfl ((if0 _ _).trans (tlt hcc2).2.1) (XS.aloadN X1.here hx rfl (hb hby d5_9) rfl rfl (XS.bipush X1.here hx rfl (hb hby d5_10) kk))) ?_
    obtain ⟨cq3, kq3, q3a, q3b, q3c⟩ := isOf hZ e1 S.exa
    obtain ⟨_, _, ⟨T3, L3, k3, n3⟩, -, X3, ⟨Lc3, hQ3, l3, y3, z3⟩, st3⟩ := X1.virtualBack hx (y := MN8) (z := MN8) hown (mvT hZ (wd 32 rfl)) (mvT hZ (wd 33 rfl)) (notFace_of_selects (args := #[]) (mvT hZ (wd 35 rfl))) (mvT hZ (wd 35 rfl)) (mvT hZ (wd 34 rfl)) (by decide) (backOf (W := 0) (si_1 l Z a0 hw [] a (63 : Int32) c0 gC gF h0 n0 (by omega) O SC hgC S SU SF rgF (by decide)) hZ (wd 36 rfl) (wd 9 rfl) (by decide) (by decide)) q3a q3c (g := (mkF m 12 #[.val (.ref a)] [(.int (63 : Int32)), (.ref a)])) rfl (by rw [hml]; rfl) (Steps.refl _) (argsL := [(.int (63 : Int32))]) (rest := []) (lenOf pd__I_I rfl) rfl (Nat.le_of_eq rfl) (hb hby d5_12) (fun _ _ => ⟨rfl, e1, (by decide : 0 + 0 ≤ _), (by decide : 0 + 0 ≤ _)⟩)
    dsimp only [Pt.U, Pt.locs, Pt.cells, Pt.slots] at X3 l3 y3 z3 st3 hQ3
    subst l3 y3 z3
    obtain ⟨r3, rfl, hr3, N3q, e3⟩ := hQ3
    have N3 := Fr.app N1 N3q
    refine go_tr (B := (T3.setTop (mkF m 15 #[.val (.ref a)] [(.int r3)]))) (st3) ?_
    by_cases hcc4 : r3 < (0 : Int32)
    · refine go_of (B := (T3.setTop (mkF m 23 #[.val (.ref a)] [(.int (1 : Int32))]))) (fun _ kk => XS.ifNo X3.here hx rfl (hb hby d5_15) rfl ((if0 _ _).trans (tlt hcc4).2.1) (XS.iconst X3.here hx rfl (hb hby d5_18) (XS.goto X3.here hx rfl (pc0 := 19) (pc' := 23) rfl (hb hby d5_19) (by decide) (by decide) kk))) ?_
      refine go_end X3 (v := some (.int (nar .boolean (1 : Int32)))) (fun h => by rw [Bd.returns] at h; cases h) Bd.notSynchronized (by decide) (by decide) (Q := (Q_isl_1 Z a c0 gC gF h0 n0)) ?_ (fun fs hr => retN X3 hx (t := .boolean) Bd.returns (by simp) (hb hby d5_23) hr)
      unfold Q_isl_1
      try rw [e3]
      refine ⟨?_, N3, rfl⟩
      have hq42 := hr1.mp hcc2
      have hq63 := hr3.mp hcc4
      simp [own_lit, nar, hq42, hq63]
    · refine go_of (B := (T3.setTop (mkF m 23 #[.val (.ref a)] [(.int (0 : Int32))]))) (fun _ kk => XS.ifYes X3.here hx rfl (pc0 := 15) (pc' := 22) rfl (hb hby d5_15) rfl ((if0 _ _).trans (flt hcc4).2.1) (by decide) (by decide) (XS.iconst X3.here hx rfl (hb hby d5_22) kk)) ?_
      refine go_end X3 (v := some (.int (nar .boolean (0 : Int32)))) (fun h => by rw [Bd.returns] at h; cases h) Bd.notSynchronized (by decide) (by decide) (Q := (Q_isl_1 Z a c0 gC gF h0 n0)) ?_ (fun fs hr => retN X3 hx (t := .boolean) Bd.returns (by simp) (hb hby d5_23) hr)
      unfold Q_isl_1
      try rw [e3]
      refine ⟨?_, N3, rfl⟩
      have hq42 := hr1.mp hcc2
      have hq63 := own_bt (fun q => hcc4 (hr3.mpr q))
      simp [own_lit, nar, hq42, hq63]
  · refine go_of (B := (T1.setTop (mkF m 23 #[.val (.ref a)] [(.int (0 : Int32))]))) (fun _ kk => XS.ifYes X1.here hx rfl (pc0 := 6) (pc' := 22) rfl (hb hby d5_6) rfl ((if0 _ _).trans (flt hcc2).2.1) (by decide) (by decide) (XS.iconst X1.here hx rfl (hb hby d5_22) kk)) ?_
    refine go_end X1 (v := some (.int (nar .boolean (0 : Int32)))) (fun h => by rw [Bd.returns] at h; cases h) Bd.notSynchronized (by decide) (by decide) (Q := (Q_isl_1 Z a c0 gC gF h0 n0)) ?_ (fun fs hr => retN X1 hx (t := .boolean) Bd.returns (by simp) (hb hby d5_23) hr)
    unfold Q_isl_1
    try rw [e1]
    refine ⟨?_, N1, rfl⟩
    have hq42 := own_bt (fun q => hcc2 (hr1.mpr q))
    simp [own_lit, nar, hq42]
def Q_ioc_2 (Z : State) (t : Addr) (wc : Int32) (w0 : Int32) (w1 : Int32) (k : ClassId) (h0 : Heap) (n0 : Nat) (v : Option Value) (h : Heap) (L : List Loc) : Prop := ∃ r : Int32, v = some (.int r) ∧ (r < 0 ↔ own_hs (own_b8 wc) [w0, w1] = false) ∧ Fr n0 L ∧ h = h0
theorem ef_ioc_2 (m : MethodId) (t : Addr) (wc : Int32)  : entryFrame m #[(.ref t), (.int wc), (.int (0 : Int32)), (.int (2 : Int32))] 6 = mkF m 0 #[.val (.ref t), .val (.int wc), .val (.int (0 : Int32)), .val (.int (2 : Int32)), .unset, .unset] [] := by first | (simp [entryFrame, mkF, argsToLocals, Value.category]; done) | rfl
theorem ioc_2 (l : Launch) (Z : State) (a0 : Array Value) (hw : TW a0 Z) (ws : List Cond) (t : Addr) (wc : Int32) (w0 : Int32) (w1 : Int32) (k : ClassId) (h0 : Heap) (n0 : Nat) (Z0 : n0 ≤ h0.size) (V : Arv Z h0 t k .byte 2 [(.int w0), (.int w1)] (.int 0)) :
    own_MF l Z MN14 jdk_43_method_23_code 6 (some .int) ws (own_R 0 0 0 0) #[(.ref t), (.int wc), (.int (0 : Int32)), (.int (2 : Int32))] h0 (Q_ioc_2 Z t wc w0 w1 k h0 n0) := by
  have wd := @own_wd _ _ hw
  refine MetFree.of_bodySF (plainFor_of_name pn_java_lang_StringLatin1) hisR ?_
  intro p e s m args below meth c s₁ Bd hml0 hP hK
  obtain ⟨rfl, hZ, hh⟩ := hP
  have hx := Bd.exec
  have hby := Bd.bytes
  have hml : c.maxLocals = 6 := hml0
  have hown : s.vm.findClass "java/lang/StringLatin1" = some m.cls := findClass_of_methodNamed Bd.named
  have hnm := (name_of_methodNamed Bd.named Bd.method).1
  have X0 : Stand p l e (own_R 0 0 0 0) s m #[(.ref t), (.int wc), (.int (0 : Int32)), (.int (2 : Int32))] below meth c s₁ [] 0 0 := Stand.of_body Bd
  have e0 : s₁.heap = h0 := by rw [← hh, Bd.state]; rfl
  have N0 := Fr.nil n0
  refine go_of (A := s₁.setTop (entryFrame m #[(.ref t), (.int wc), (.int (0 : Int32)), (.int (2 : Int32))] 6)) (B := s₁.setTop (mkF m 0 #[.val (.ref t), .val (.int wc), .val (.int (0 : Int32)), .val (.int (2 : Int32)), .unset, .unset] [])) (fun _ kk' => castTop (ef_ioc_2 m t wc) kk') ?_
  refine go_of (B := (s₁.setTop (mkF m 9 #[.val (.ref t), .val (.int wc), .val (.int (0 : Int32)), .val (.int (2 : Int32)), .val (.int (own_b8 wc)), .val (.int (0 : Int32))] [(.int (0 : Int32))]))) (fun _ kk => XS.iloadN X0.here hx rfl (hb hby d19_0) rfl (XS.i2b X0.here hx rfl (hb hby d19_1) rfl (XS.istore X0.here hx rfl (hb hby d19_2) rfl rfl (XS.iloadN X0.here hx rfl (hb hby d19_4) rfl (XS.istore X0.here hx rfl (hb hby d19_5) rfl rfl (XS.iload X0.here hx rfl (hb hby d19_7) rfl kk)))))) ?_
  refine go_of (B := (s₁.setTop (mkF m 16 #[.val (.ref t), .val (.int wc), .val (.int (0 : Int32)), .val (.int (2 : Int32)), .val (.int (own_b8 wc)), .val (.int (0 : Int32))] [(.int (0 : Int32)), (.ref t)]))) (fun _ kk => XS.iloadN X0.here hx rfl (hb hby d19_9) rfl (XS.icmpNo X0.here hx rfl (hb hby d19_10) rfl (tlt (by decide : (0 : Int32) < (2 : Int32))).2.1 (XS.aloadN X0.here hx rfl (hb hby d19_13) rfl rfl (XS.iload X0.here hx rfl (hb hby d19_14) rfl kk)))) ?_
  obtain ⟨cl1, Ar1, q1, Sz1, Nn1, Hh1, G1⟩ := id (V)
  refine go_of (B := (s₁.setTop (mkF m 19 #[.val (.ref t), .val (.int wc), .val (.int (0 : Int32)), .val (.int (2 : Int32)), .val (.int (own_b8 wc)), .val (.int (0 : Int32))] [(.int (own_b8 wc)), (.int w0)]))) (fun _ kk => X0.baloadBytes hx (j := (0 : Int32)) (v := (.int w0)) (by rw [e0]; exact Ar1.1) (State.isArrayOf_alike hZ.alike Ar1.2.1) Ar1.2.2 (inb_of Sz1 ⟨by decide, by decide⟩) (Hh1.at (inb_of Sz1 ⟨by decide, by decide⟩) rfl) (g := (mkF m 16 #[.val (.ref t), .val (.int wc), .val (.int (0 : Int32)), .val (.int (2 : Int32)), .val (.int (own_b8 wc)), .val (.int (0 : Int32))] [(.int (0 : Int32)), (.ref t)])) rfl rfl (hb hby d19_16) _ (XS.iload X0.here hx rfl (hb hby d19_17) rfl kk)) ?_
  by_cases hcc2 : w0 = (own_b8 wc)
  · refine go_of (B := (s₁.setTop (mkF m 24 #[.val (.ref t), .val (.int wc), .val (.int (0 : Int32)), .val (.int (2 : Int32)), .val (.int (own_b8 wc)), .val (.int (0 : Int32))] [(.int (0 : Int32))]))) (fun _ kk => XS.icmpNo X0.here hx rfl (hb hby d19_19) rfl (teq hcc2).2 (XS.iload X0.here hx rfl (hb hby d19_22) rfl kk)) ?_
    refine go_end X0 (v := some (.int (0 : Int32))) (fun h => by rw [Bd.returns] at h; cases h) Bd.notSynchronized (by decide) (by decide) (Q := (Q_ioc_2 Z t wc w0 w1 k h0 n0)) ?_ (fun fs hr => own_retI X0 hx Bd.returns (hb hby d19_24) hr)
    unfold Q_ioc_2
    try rw [e0]
    exact ⟨_, rfl, iff_of_false (by decide) (by simp [own_hs, hcc2]), N0, rfl⟩
  · refine go_of (B := (s₁.setTop (mkF m 13 #[.val (.ref t), .val (.int wc), .val (.int (0 : Int32)), .val (.int (2 : Int32)), .val (.int (own_b8 wc)), .val (.int (1 : Int32))] []))) (fun _ kk => XS.icmpYes X0.here hx rfl (pc0 := 19) (pc' := 25) rfl (hb hby d19_19) rfl (feq hcc2).2 (by decide) (by decide) (XS.iinc X0.here hx rfl (hb hby d19_25) rfl rfl (XS.goto X0.here hx rfl (pc0 := 28) (pc' := 7) rfl (hb hby d19_28) (by decide) (by decide) (XS.iload X0.here hx rfl (hb hby d19_7) rfl (XS.iloadN X0.here hx rfl (hb hby d19_9) rfl (XS.icmpNo X0.here hx rfl (hb hby d19_10) rfl (tlt (by decide : (1 : Int32) < (2 : Int32))).2.1 kk)))))) ?_
    refine go_of (B := (s₁.setTop (mkF m 16 #[.val (.ref t), .val (.int wc), .val (.int (0 : Int32)), .val (.int (2 : Int32)), .val (.int (own_b8 wc)), .val (.int (1 : Int32))] [(.int (1 : Int32)), (.ref t)]))) (fun _ kk => XS.aloadN X0.here hx rfl (hb hby d19_13) rfl rfl (XS.iload X0.here hx rfl (hb hby d19_14) rfl kk)) ?_
    obtain ⟨cl3, Ar3, q3, Sz3, Nn3, Hh3, G3⟩ := id (V)
    refine go_of (B := (s₁.setTop (mkF m 19 #[.val (.ref t), .val (.int wc), .val (.int (0 : Int32)), .val (.int (2 : Int32)), .val (.int (own_b8 wc)), .val (.int (1 : Int32))] [(.int (own_b8 wc)), (.int w1)]))) (fun _ kk => X0.baloadBytes hx (j := (1 : Int32)) (v := (.int w1)) (by rw [e0]; exact Ar3.1) (State.isArrayOf_alike hZ.alike Ar3.2.1) Ar3.2.2 (inb_of Sz3 ⟨by decide, by decide⟩) (Hh3.at (inb_of Sz3 ⟨by decide, by decide⟩) rfl) (g := (mkF m 16 #[.val (.ref t), .val (.int wc), .val (.int (0 : Int32)), .val (.int (2 : Int32)), .val (.int (own_b8 wc)), .val (.int (1 : Int32))] [(.int (1 : Int32)), (.ref t)])) rfl rfl (hb hby d19_16) _ (XS.iload X0.here hx rfl (hb hby d19_17) rfl kk)) ?_
    by_cases hcc4 : w1 = (own_b8 wc)
    · refine go_of (B := (s₁.setTop (mkF m 24 #[.val (.ref t), .val (.int wc), .val (.int (0 : Int32)), .val (.int (2 : Int32)), .val (.int (own_b8 wc)), .val (.int (1 : Int32))] [(.int (1 : Int32))]))) (fun _ kk => XS.icmpNo X0.here hx rfl (hb hby d19_19) rfl (teq hcc4).2 (XS.iload X0.here hx rfl (hb hby d19_22) rfl kk)) ?_
      refine go_end X0 (v := some (.int (1 : Int32))) (fun h => by rw [Bd.returns] at h; cases h) Bd.notSynchronized (by decide) (by decide) (Q := (Q_ioc_2 Z t wc w0 w1 k h0 n0)) ?_ (fun fs hr => own_retI X0 hx Bd.returns (hb hby d19_24) hr)
      unfold Q_ioc_2
      try rw [e0]
      exact ⟨_, rfl, iff_of_false (by decide) (by simp [own_hs, hcc2, hcc4]), N0, rfl⟩
    · refine go_of (B := (s₁.setTop (mkF m 31 #[.val (.ref t), .val (.int wc), .val (.int (0 : Int32)), .val (.int (2 : Int32)), .val (.int (own_b8 wc)), .val (.int (2 : Int32))] []))) (fun _ kk => XS.icmpYes X0.here hx rfl (pc0 := 19) (pc' := 25) rfl (hb hby d19_19) rfl (feq hcc4).2 (by decide) (by decide) (XS.iinc X0.here hx rfl (hb hby d19_25) rfl rfl (XS.goto X0.here hx rfl (pc0 := 28) (pc' := 7) rfl (hb hby d19_28) (by decide) (by decide) (XS.iload X0.here hx rfl (hb hby d19_7) rfl (XS.iloadN X0.here hx rfl (hb hby d19_9) rfl (XS.icmpYes X0.here hx rfl (pc0 := 10) (pc' := 31) rfl (hb hby d19_10) rfl (flt (by decide : ¬ ((2 : Int32) < (2 : Int32)))).2.1 (by decide) (by decide) kk)))))) ?_
      refine go_of (B := (s₁.setTop (mkF m 32 #[.val (.ref t), .val (.int wc), .val (.int (0 : Int32)), .val (.int (2 : Int32)), .val (.int (own_b8 wc)), .val (.int (2 : Int32))] [(.int (-1 : Int32))]))) (fun _ kk => XS.iconst X0.here hx rfl (hb hby d19_31) kk) ?_
      refine go_end X0 (v := some (.int (-1 : Int32))) (fun h => by rw [Bd.returns] at h; cases h) Bd.notSynchronized (by decide) (by decide) (Q := (Q_ioc_2 Z t wc w0 w1 k h0 n0)) ?_ (fun fs hr => own_retI X0 hx Bd.returns (hb hby d19_32) hr)
      unfold Q_ioc_2
      try rw [e0]
      exact ⟨_, rfl, iff_of_true (by decide) (by simp [own_hs, hcc2, hcc4]), N0, rfl⟩
def Q_lio_2 (Z : State) (t : Addr) (wc : Int32) (w0 : Int32) (w1 : Int32) (k : ClassId) (h0 : Heap) (n0 : Nat) (v : Option Value) (h : Heap) (L : List Loc) : Prop := ∃ r : Int32, v = some (.int r) ∧ (r < 0 ↔ own_hs (own_b8 wc) [w0, w1] = false) ∧ Fr n0 L ∧ h = h0
theorem ef_lio_2 (m : MethodId) (t : Addr) (wc : Int32)  : entryFrame m #[(.ref t), (.int wc), (.int (0 : Int32)), (.int (2 : Int32))] 4 = mkF m 0 #[.val (.ref t), .val (.int wc), .val (.int (0 : Int32)), .val (.int (2 : Int32))] [] := by first | (simp [entryFrame, mkF, argsToLocals, Value.category]; done) | rfl
theorem lio_2 (l : Launch) (Z : State) (a0 : Array Value) (hw : TW a0 Z) (ws : List Cond) (t : Addr) (wc : Int32) (w0 : Int32) (w1 : Int32) (k : ClassId) (h0 : Heap) (n0 : Nat) (Z0 : n0 ≤ h0.size) (V : Arv Z h0 t k .byte 2 [(.int w0), (.int w1)] (.int 0)) (hwc : ¬ wc < 0 ∧ ¬ (255 : Int32) < wc) :
    own_MF l Z MN13 jdk_43_method_22_code 4 (some .int) ws (own_R 1 0 0 17) #[(.ref t), (.int wc), (.int (0 : Int32)), (.int (2 : Int32))] h0 (Q_lio_2 Z t wc w0 w1 k h0 n0) := by
  have wd := @own_wd _ _ hw
  refine MetFree.of_bodySF (plainFor_of_name pn_java_lang_StringLatin1) hisR ?_
  intro p e s m args below meth c s₁ Bd hml0 hP hK
  obtain ⟨rfl, hZ, hh⟩ := hP
  have hx := Bd.exec
  have hby := Bd.bytes
  have hml : c.maxLocals = 4 := hml0
  have hown : s.vm.findClass "java/lang/StringLatin1" = some m.cls := findClass_of_methodNamed Bd.named
  have hnm := (name_of_methodNamed Bd.named Bd.method).1
  have X0 : Stand p l e (own_R 1 0 0 17) s m #[(.ref t), (.int wc), (.int (0 : Int32)), (.int (2 : Int32))] below meth c s₁ [] 0 0 := Stand.of_body Bd
  have e0 : s₁.heap = h0 := by rw [← hh, Bd.state]; rfl
  have N0 := Fr.nil n0
  refine go_of (A := s₁.setTop (entryFrame m #[(.ref t), (.int wc), (.int (0 : Int32)), (.int (2 : Int32))] 4)) (B := s₁.setTop (mkF m 0 #[.val (.ref t), .val (.int wc), .val (.int (0 : Int32)), .val (.int (2 : Int32))] [])) (fun _ kk' => castTop (ef_lio_2 m t wc) kk') ?_
  refine go_of (B := (s₁.setTop (mkF m 1 #[.val (.ref t), .val (.int wc), .val (.int (0 : Int32)), .val (.int (2 : Int32))] [(.int wc)]))) (fun _ kk => XS.iloadN X0.here hx rfl (hb hby d11_0) rfl kk) ?_
  obtain ⟨_, _, ⟨T1, L1, k1, n1⟩, -, X1, ⟨Lc1, hQ1, l1, y1, z1⟩, st1⟩ := Jvm.LawKit.callS X0 hx (y := MN12) hown (mvT hZ (wd 62 rfl)) (mvT hZ (wd 63 rfl)) (mvT hZ (wd 60 rfl)) (mvT hZ (wd 64 rfl)) (by decide) (backOf (W := 0) (cani l Z a0 hw [] wc h0 n0 (by omega) hwc) hZ (wd 64 rfl) (wd 60 rfl) (by decide) (by decide)) (g := (mkF m 1 #[.val (.ref t), .val (.int wc), .val (.int (0 : Int32)), .val (.int (2 : Int32))] [(.int wc)])) rfl (by rw [hml]; rfl) (argsL := [(.int wc)]) (rest := []) (lenOf pd__I_Z rfl) rfl (Nat.le_of_eq rfl) (hb hby d11_1) (fun _ _ => ⟨rfl, e0, (by decide : 0 + 0 ≤ _), (by decide : 0 + 0 ≤ _)⟩)
  dsimp only [Pt.U, Pt.locs, Pt.cells, Pt.slots] at X1 l1 y1 z1 st1 hQ1
  subst l1 y1 z1
  obtain ⟨rfl, N1q, e1⟩ := hQ1
  have N1 := Fr.app N0 N1q
  refine go_of (B := (T1.setTop (mkF m 4 #[.val (.ref t), .val (.int wc), .val (.int (0 : Int32)), .val (.int (2 : Int32))] [(.int (1 : Int32))]))) (st1) ?_
  refine go_of (B := (T1.setTop (mkF m 11 #[.val (.ref t), .val (.int wc), .val (.int (0 : Int32)), .val (.int (2 : Int32))] [(.int (0 : Int32)), (.int (0 : Int32))]))) (fun _ kk => XS.ifYes X1.here hx rfl (pc0 := 4) (pc' := 9) rfl (hb hby d11_4) rfl ((if0 _ _).trans (feq (by decide : ¬ ((1 : Int32) = (0 : Int32)))).2) (by decide) (by decide) (XS.iloadN X1.here hx rfl (hb hby d11_9) rfl (XS.iconst X1.here hx rfl (hb hby d11_10) kk))) ?_
  obtain ⟨_, _, ⟨T2, L2, k2, n2⟩, -, X2, ⟨Lc2, hQ2, l2, y2, z2⟩, st2⟩ := Jvm.LawKit.callS X1 hx (y := MN3) hown (mvT hZ (wd 65 rfl)) (mvT hZ (wd 66 rfl)) (mvT hZ (wd 67 rfl)) (mvT hZ (wd 68 rfl)) (by decide) (backOf (W := 0) (v_max l Z a0 hw [] (0 : Int32) (0 : Int32) (0 : Int32) h0 n0 (by omega) (by decide)) hZ (wd 68 rfl) (wd 67 rfl) (by decide) (by decide)) (g := (mkF m 11 #[.val (.ref t), .val (.int wc), .val (.int (0 : Int32)), .val (.int (2 : Int32))] [(.int (0 : Int32)), (.int (0 : Int32))])) rfl (by rw [hml]; rfl) (argsL := [(.int (0 : Int32)), (.int (0 : Int32))]) (rest := []) (lenOf pd__II_I rfl) rfl (Nat.le_of_eq rfl) (hb hby d11_11) (fun _ _ => ⟨rfl, e1, (by decide : 0 + 0 ≤ _), (by decide : 0 + 0 ≤ _)⟩)
  dsimp only [Pt.U, Pt.locs, Pt.cells, Pt.slots] at X2 l2 y2 z2 st2 hQ2
  subst l2 y2 z2
  obtain ⟨rfl, N2q, e2⟩ := hQ2
  have N2 := Fr.app N1 N2q
  refine go_of (B := (T2.setTop (mkF m 14 #[.val (.ref t), .val (.int wc), .val (.int (0 : Int32)), .val (.int (2 : Int32))] [(.int (0 : Int32))]))) (st2) ?_
  refine go_of (B := (T2.setTop (mkF m 17 #[.val (.ref t), .val (.int wc), .val (.int (0 : Int32)), .val (.int (2 : Int32))] [(.ref t), (.int (2 : Int32))]))) (fun _ kk => XS.istoreN X2.here hx rfl (hb hby d11_14) rfl rfl (XS.iloadN X2.here hx rfl (hb hby d11_15) rfl (XS.aloadN X2.here hx rfl (hb hby d11_16) rfl rfl kk))) ?_
  obtain ⟨cl3, Ar3, q3, Sz3, Nn3, Hh3, G3⟩ := id (V)
  have ln3 := len_of Sz3 Nn3
  refine go_of (B := (T2.setTop (mkF m 18 #[.val (.ref t), .val (.int wc), .val (.int (0 : Int32)), .val (.int (2 : Int32))] [(.int (2 : Int32)), (.int (2 : Int32))]))) (fun _ kk => X2.arraylength hx (by rw [e2]; exact Ar3.1) (State.isArrayOf_alike hZ.alike Ar3.2.1) (g := (mkF m 17 #[.val (.ref t), .val (.int wc), .val (.int (0 : Int32)), .val (.int (2 : Int32))] [(.ref t), (.int (2 : Int32))])) rfl rfl (hb hby d11_17) _ (by rw [ln3]; exact kk)) ?_
  obtain ⟨_, _, ⟨T4, L4, k4, n4⟩, -, X4, ⟨Lc4, hQ4, l4, y4, z4⟩, st4⟩ := Jvm.LawKit.callS X2 hx (y := MN4) hown (mvT hZ (wd 69 rfl)) (mvT hZ (wd 70 rfl)) (mvT hZ (wd 67 rfl)) (mvT hZ (wd 71 rfl)) (by decide) (backOf (W := 0) (v_min l Z a0 hw [] (2 : Int32) (2 : Int32) (2 : Int32) h0 n0 (by omega) (by decide)) hZ (wd 71 rfl) (wd 67 rfl) (by decide) (by decide)) (g := (mkF m 18 #[.val (.ref t), .val (.int wc), .val (.int (0 : Int32)), .val (.int (2 : Int32))] [(.int (2 : Int32)), (.int (2 : Int32))])) rfl (by rw [hml]; rfl) (argsL := [(.int (2 : Int32)), (.int (2 : Int32))]) (rest := []) (lenOf pd__II_I rfl) rfl (Nat.le_of_eq rfl) (hb hby d11_18) (fun _ _ => ⟨rfl, e2, (by decide : 0 + 0 ≤ _), (by decide : 0 + 0 ≤ _)⟩)
  dsimp only [Pt.U, Pt.locs, Pt.cells, Pt.slots] at X4 l4 y4 z4 st4 hQ4
  subst l4 y4 z4
  obtain ⟨rfl, N4q, e4⟩ := hQ4
  have N4 := Fr.app N2 N4q
  refine go_of (B := (T4.setTop (mkF m 21 #[.val (.ref t), .val (.int wc), .val (.int (0 : Int32)), .val (.int (2 : Int32))] [(.int (2 : Int32))]))) (st4) ?_
  refine go_of (B := (T4.setTop (mkF m 31 #[.val (.ref t), .val (.int wc), .val (.int (0 : Int32)), .val (.int (2 : Int32))] [(.int wc), (.ref t)]))) (fun _ kk => XS.istoreN X4.here hx rfl (hb hby d11_21) rfl rfl (XS.iloadN X4.here hx rfl (hb hby d11_22) rfl (XS.iloadN X4.here hx rfl (hb hby d11_23) rfl (XS.icmpYes X4.here hx rfl (pc0 := 24) (pc' := 29) rfl (hb hby d11_24) rfl (tlt (by decide : (0 : Int32) < (2 : Int32))).1 (by decide) (by decide) (XS.aloadN X4.here hx rfl (hb hby d11_29) rfl rfl (XS.iloadN X4.here hx rfl (hb hby d11_30) rfl kk)))))) ?_
  refine go_of (B := (T4.setTop (mkF m 33 #[.val (.ref t), .val (.int wc), .val (.int (0 : Int32)), .val (.int (2 : Int32))] [(.int (2 : Int32)), (.int (0 : Int32)), (.int wc), (.ref t)]))) (fun _ kk => XS.iloadN X4.here hx rfl (hb hby d11_31) rfl (XS.iloadN X4.here hx rfl (hb hby d11_32) rfl kk)) ?_
  obtain ⟨_, _, ⟨T5, L5, k5, n5⟩, -, X5, ⟨Lc5, hQ5, l5, y5, z5⟩, st5⟩ := Jvm.LawKit.callS X4 hx (y := MN14) hown (mvT hZ (wd 85 rfl)) (mvT hZ (wd 86 rfl)) (mvT hZ (wd 60 rfl)) (mvT hZ (wd 87 rfl)) (by decide) (backOf (W := 0) (ioc_2 l Z a0 hw [] t wc w0 w1 k h0 n0 (by omega) V) hZ (wd 87 rfl) (wd 60 rfl) (by decide) (by decide)) (g := (mkF m 33 #[.val (.ref t), .val (.int wc), .val (.int (0 : Int32)), .val (.int (2 : Int32))] [(.int (2 : Int32)), (.int (0 : Int32)), (.int wc), (.ref t)])) rfl (by rw [hml]; rfl) (argsL := [(.ref t), (.int wc), (.int (0 : Int32)), (.int (2 : Int32))]) (rest := []) (lenOf pd___BIII_I rfl) rfl (Nat.le_of_eq rfl) (hb hby d11_33) (fun _ _ => ⟨rfl, e4, (by decide : 0 + 0 ≤ _), (by decide : 0 + 0 ≤ _)⟩)
  dsimp only [Pt.U, Pt.locs, Pt.cells, Pt.slots] at X5 l5 y5 z5 st5 hQ5
  subst l5 y5 z5
  obtain ⟨r5, rfl, hr5, N5q, e5⟩ := hQ5
  have N5 := Fr.app N4 N5q
  refine go_of (B := (T5.setTop (mkF m 36 #[.val (.ref t), .val (.int wc), .val (.int (0 : Int32)), .val (.int (2 : Int32))] [(.int r5)]))) (st5) ?_
  refine go_end X5 (v := some (.int r5)) (fun h => by rw [Bd.returns] at h; cases h) Bd.notSynchronized (by decide) (by decide) (Q := (Q_lio_2 Z t wc w0 w1 k h0 n0)) ?_ (fun fs hr => own_retI X5 hx Bd.returns (hb hby d11_36) hr)
  unfold Q_lio_2
  try rw [e5]
  exact ⟨_, rfl, hr5, N5, rfl⟩
def Q_ucu_2 (Z : State) (t : Addr) (wc : Int32) (c0 : Int32) (c1 : Int32) (k : ClassId) (h0 : Heap) (n0 : Nat) (v : Option Value) (h : Heap) (L : List Loc) : Prop := ∃ r : Int32, v = some (.int r) ∧ (r < 0 ↔ own_hs wc [c0, c1] = false) ∧ Fr n0 L ∧ h = h0
theorem ef_ucu_2 (m : MethodId) (t : Addr) (wc : Int32)  : entryFrame m #[(.ref t), (.int wc), (.int (0 : Int32)), (.int (2 : Int32))] 5 = mkF m 0 #[.val (.ref t), .val (.int wc), .val (.int (0 : Int32)), .val (.int (2 : Int32)), .unset] [] := by first | (simp [entryFrame, mkF, argsToLocals, Value.category]; done) | rfl
theorem ucu_2 (l : Launch) (Z : State) (a0 : Array Value) (hw : TW a0 Z) (ws : List Cond) (t : Addr) (wc : Int32) (c0 : Int32) (c1 : Int32) (k : ClassId) (h0 : Heap) (n0 : Nat) (Z0 : n0 ≤ h0.size) (O : Old Z n0 h0) (SU : US Z) (V : Arv Z h0 t k .byte 4 [(.int (own_b0 c0)), (.int (own_b1 c0)), (.int (own_b0 c1)), (.int (own_b1 c1))] (.int 0)) (hc0 : ¬ c0 < 0 ∧ ¬ (65535 : Int32) < c0) (hc1 : ¬ c1 < 0 ∧ ¬ (65535 : Int32) < c1) :
    own_MF l Z MN22 jdk_52_method_48_code 5 (some .int) ws (own_R 1 0 0 13) #[(.ref t), (.int wc), (.int (0 : Int32)), (.int (2 : Int32))] h0 (Q_ucu_2 Z t wc c0 c1 k h0 n0) := by
  have wd := @own_wd _ _ hw
  refine MetFree.of_bodySF (plainFor_of_name pn_java_lang_StringUTF16) hisR ?_
  intro p e s m args below meth c s₁ Bd hml0 hP hK
  obtain ⟨rfl, hZ, hh⟩ := hP
  have hx := Bd.exec
  have hby := Bd.bytes
  have hml : c.maxLocals = 5 := hml0
  have hown : s.vm.findClass "java/lang/StringUTF16" = some m.cls := findClass_of_methodNamed Bd.named
  have hnm := (name_of_methodNamed Bd.named Bd.method).1
  have X0 : Stand p l e (own_R 1 0 0 13) s m #[(.ref t), (.int wc), (.int (0 : Int32)), (.int (2 : Int32))] below meth c s₁ [] 0 0 := Stand.of_body Bd
  have e0 : s₁.heap = h0 := by rw [← hh, Bd.state]; rfl
  have N0 := Fr.nil n0
  refine go_of (A := s₁.setTop (entryFrame m #[(.ref t), (.int wc), (.int (0 : Int32)), (.int (2 : Int32))] 5)) (B := s₁.setTop (mkF m 0 #[.val (.ref t), .val (.int wc), .val (.int (0 : Int32)), .val (.int (2 : Int32)), .unset] [])) (fun _ kk' => castTop (ef_ucu_2 m t wc) kk') ?_
  refine go_of (B := (s₁.setTop (mkF m 10 #[.val (.ref t), .val (.int wc), .val (.int (0 : Int32)), .val (.int (2 : Int32)), .val (.int (0 : Int32))] [(.ref t)]))) (fun _ kk => XS.iloadN X0.here hx rfl (hb hby d31_0) rfl (XS.istore X0.here hx rfl (hb hby d31_1) rfl rfl (XS.iload X0.here hx rfl (hb hby d31_3) rfl (XS.iloadN X0.here hx rfl (hb hby d31_5) rfl (XS.icmpNo X0.here hx rfl (hb hby d31_6) rfl (tlt (by decide : (0 : Int32) < (2 : Int32))).2.1 (XS.aloadN X0.here hx rfl (hb hby d31_9) rfl rfl kk)))))) ?_
  refine go_of (B := (s₁.setTop (mkF m 12 #[.val (.ref t), .val (.int wc), .val (.int (0 : Int32)), .val (.int (2 : Int32)), .val (.int (0 : Int32))] [(.int (0 : Int32)), (.ref t)]))) (fun _ kk => XS.iload X0.here hx rfl (hb hby d31_10) rfl kk) ?_
  obtain ⟨_, _, ⟨T1, L1, k1, n1⟩, -, X1, ⟨Lc1, hQ1, l1, y1, z1⟩, st1⟩ := Jvm.LawKit.callS X0 hx (y := MN19) hown (mvT hZ (wd 104 rfl)) (mvT hZ (wd 105 rfl)) (mvT hZ (wd 77 rfl)) (mvT hZ (wd 106 rfl)) (by decide) (backOf (W := 0) (u_get l Z a0 hw [] t (0 : Int32) (4 : Int32) _ c0 k h0 n0 (by omega) O SU V (by decide) (by decide) rfl rfl hc0) hZ (wd 106 rfl) (wd 77 rfl) (by decide) (by decide)) (g := (mkF m 12 #[.val (.ref t), .val (.int wc), .val (.int (0 : Int32)), .val (.int (2 : Int32)), .val (.int (0 : Int32))] [(.int (0 : Int32)), (.ref t)])) rfl (by rw [hml]; rfl) (argsL := [(.ref t), (.int (0 : Int32))]) (rest := []) (lenOf pd___BI_C rfl) rfl (Nat.le_of_eq rfl) (hb hby d31_12) (fun _ _ => ⟨rfl, e0, (by decide : 0 + 0 ≤ _), (by decide : 0 + 0 ≤ _)⟩)
  dsimp only [Pt.U, Pt.locs, Pt.cells, Pt.slots] at X1 l1 y1 z1 st1 hQ1
  subst l1 y1 z1
  obtain ⟨rfl, N1q, e1⟩ := hQ1
  have N1 := Fr.app N0 N1q
  refine go_of (B := (T1.setTop (mkF m 15 #[.val (.ref t), .val (.int wc), .val (.int (0 : Int32)), .val (.int (2 : Int32)), .val (.int (0 : Int32))] [(.int c0)]))) (st1) ?_
  refine go_of (B := (T1.setTop (mkF m 16 #[.val (.ref t), .val (.int wc), .val (.int (0 : Int32)), .val (.int (2 : Int32)), .val (.int (0 : Int32))] [(.int wc), (.int c0)]))) (fun _ kk => XS.iloadN X1.here hx rfl (hb hby d31_15) rfl kk) ?_
  by_cases hcc2 : c0 = wc
  · refine go_of (B := (T1.setTop (mkF m 21 #[.val (.ref t), .val (.int wc), .val (.int (0 : Int32)), .val (.int (2 : Int32)), .val (.int (0 : Int32))] [(.int (0 : Int32))]))) (fun _ kk => XS.icmpNo X1.here hx rfl (hb hby d31_16) rfl (teq hcc2).2 (XS.iload X1.here hx rfl (hb hby d31_19) rfl kk)) ?_
    refine go_end X1 (v := some (.int (0 : Int32))) (fun h => by rw [Bd.returns] at h; cases h) Bd.notSynchronized (by decide) (by decide) (Q := (Q_ucu_2 Z t wc c0 c1 k h0 n0)) ?_ (fun fs hr => own_retI X1 hx Bd.returns (hb hby d31_21) hr)
    unfold Q_ucu_2
    try rw [e1]
    exact ⟨_, rfl, iff_of_false (by decide) (by simp [own_hs, hcc2]), N1, rfl⟩
  · refine go_of (B := (T1.setTop (mkF m 9 #[.val (.ref t), .val (.int wc), .val (.int (0 : Int32)), .val (.int (2 : Int32)), .val (.int (1 : Int32))] []))) (fun _ kk => XS.icmpYes X1.here hx rfl (pc0 := 16) (pc' := 22) rfl (hb hby d31_16) rfl (feq hcc2).2 (by decide) (by decide) (XS.iinc X1.here hx rfl (hb hby d31_22) rfl rfl (XS.goto X1.here hx rfl (pc0 := 25) (pc' := 3) rfl (hb hby d31_25) (by decide) (by decide) (XS.iload X1.here hx rfl (hb hby d31_3) rfl (XS.iloadN X1.here hx rfl (hb hby d31_5) rfl (XS.icmpNo X1.here hx rfl (hb hby d31_6) rfl (tlt (by decide : (1 : Int32) < (2 : Int32))).2.1 kk)))))) ?_
    refine go_of (B := (T1.setTop (mkF m 12 #[.val (.ref t), .val (.int wc), .val (.int (0 : Int32)), .val (.int (2 : Int32)), .val (.int (1 : Int32))] [(.int (1 : Int32)), (.ref t)]))) (fun _ kk => XS.aloadN X1.here hx rfl (hb hby d31_9) rfl rfl (XS.iload X1.here hx rfl (hb hby d31_10) rfl kk)) ?_
    obtain ⟨_, _, ⟨T3, L3, k3, n3⟩, -, X3, ⟨Lc3, hQ3, l3, y3, z3⟩, st3⟩ := Jvm.LawKit.callS X1 hx (y := MN19) hown (mvT hZ (wd 104 rfl)) (mvT hZ (wd 105 rfl)) (mvT hZ (wd 77 rfl)) (mvT hZ (wd 106 rfl)) (by decide) (backOf (W := 0) (u_get l Z a0 hw [] t (1 : Int32) (4 : Int32) _ c1 k h0 n0 (by omega) O SU V (by decide) (by decide) rfl rfl hc1) hZ (wd 106 rfl) (wd 77 rfl) (by decide) (by decide)) (g := (mkF m 12 #[.val (.ref t), .val (.int wc), .val (.int (0 : Int32)), .val (.int (2 : Int32)), .val (.int (1 : Int32))] [(.int (1 : Int32)), (.ref t)])) rfl (by rw [hml]; rfl) (argsL := [(.ref t), (.int (1 : Int32))]) (rest := []) (lenOf pd___BI_C rfl) rfl (Nat.le_of_eq rfl) (hb hby d31_12) (fun _ _ => ⟨rfl, e1, (by decide : 0 + 0 ≤ _), (by decide : 0 + 0 ≤ _)⟩)
    dsimp only [Pt.U, Pt.locs, Pt.cells, Pt.slots] at X3 l3 y3 z3 st3 hQ3
    subst l3 y3 z3
    obtain ⟨rfl, N3q, e3⟩ := hQ3
    have N3 := Fr.app N1 N3q
    refine go_of (B := (T3.setTop (mkF m 15 #[.val (.ref t), .val (.int wc), .val (.int (0 : Int32)), .val (.int (2 : Int32)), .val (.int (1 : Int32))] [(.int c1)]))) (st3) ?_
    refine go_of (B := (T3.setTop (mkF m 16 #[.val (.ref t), .val (.int wc), .val (.int (0 : Int32)), .val (.int (2 : Int32)), .val (.int (1 : Int32))] [(.int wc), (.int c1)]))) (fun _ kk => XS.iloadN X3.here hx rfl (hb hby d31_15) rfl kk) ?_
    by_cases hcc4 : c1 = wc
    · refine go_of (B := (T3.setTop (mkF m 21 #[.val (.ref t), .val (.int wc), .val (.int (0 : Int32)), .val (.int (2 : Int32)), .val (.int (1 : Int32))] [(.int (1 : Int32))]))) (fun _ kk => XS.icmpNo X3.here hx rfl (hb hby d31_16) rfl (teq hcc4).2 (XS.iload X3.here hx rfl (hb hby d31_19) rfl kk)) ?_
      refine go_end X3 (v := some (.int (1 : Int32))) (fun h => by rw [Bd.returns] at h; cases h) Bd.notSynchronized (by decide) (by decide) (Q := (Q_ucu_2 Z t wc c0 c1 k h0 n0)) ?_ (fun fs hr => own_retI X3 hx Bd.returns (hb hby d31_21) hr)
      unfold Q_ucu_2
      try rw [e3]
      exact ⟨_, rfl, iff_of_false (by decide) (by simp [own_hs, hcc2, hcc4]), N3, rfl⟩
    · refine go_of (B := (T3.setTop (mkF m 28 #[.val (.ref t), .val (.int wc), .val (.int (0 : Int32)), .val (.int (2 : Int32)), .val (.int (2 : Int32))] []))) (fun _ kk => XS.icmpYes X3.here hx rfl (pc0 := 16) (pc' := 22) rfl (hb hby d31_16) rfl (feq hcc4).2 (by decide) (by decide) (XS.iinc X3.here hx rfl (hb hby d31_22) rfl rfl (XS.goto X3.here hx rfl (pc0 := 25) (pc' := 3) rfl (hb hby d31_25) (by decide) (by decide) (XS.iload X3.here hx rfl (hb hby d31_3) rfl (XS.iloadN X3.here hx rfl (hb hby d31_5) rfl (XS.icmpYes X3.here hx rfl (pc0 := 6) (pc' := 28) rfl (hb hby d31_6) rfl (flt (by decide : ¬ ((2 : Int32) < (2 : Int32)))).2.1 (by decide) (by decide) kk)))))) ?_
      refine go_of (B := (T3.setTop (mkF m 29 #[.val (.ref t), .val (.int wc), .val (.int (0 : Int32)), .val (.int (2 : Int32)), .val (.int (2 : Int32))] [(.int (-1 : Int32))]))) (fun _ kk => XS.iconst X3.here hx rfl (hb hby d31_28) kk) ?_
      refine go_end X3 (v := some (.int (-1 : Int32))) (fun h => by rw [Bd.returns] at h; cases h) Bd.notSynchronized (by decide) (by decide) (Q := (Q_ucu_2 Z t wc c0 c1 k h0 n0)) ?_ (fun fs hr => own_retI X3 hx Bd.returns (hb hby d31_29) hr)
      unfold Q_ucu_2
      try rw [e3]
      exact ⟨_, rfl, iff_of_true (by decide) (by simp [own_hs, hcc2, hcc4]), N3, rfl⟩
def Q_uic_2 (Z : State) (t : Addr) (wc : Int32) (c0 : Int32) (c1 : Int32) (k : ClassId) (gF : Value) (h0 : Heap) (n0 : Nat) (v : Option Value) (h : Heap) (L : List Loc) : Prop := ∃ r : Int32, v = some (.int r) ∧ (r < 0 ↔ own_hs wc [c0, c1] = false) ∧ Fr n0 L ∧ h = h0
theorem ef_uic_2 (m : MethodId) (t : Addr) (wc : Int32)  : entryFrame m #[(.ref t), (.int wc), (.int (0 : Int32)), (.int (2 : Int32))] 4 = mkF m 0 #[.val (.ref t), .val (.int wc), .val (.int (0 : Int32)), .val (.int (2 : Int32))] [] := by first | (simp [entryFrame, mkF, argsToLocals, Value.category]; done) | rfl
theorem uic_2 (l : Launch) (Z : State) (a0 : Array Value) (hw : TW a0 Z) (ws : List Cond) (t : Addr) (wc : Int32) (c0 : Int32) (c1 : Int32) (k : ClassId) (gF : Value) (h0 : Heap) (n0 : Nat) (Z0 : n0 ≤ h0.size) (O : Old Z n0 h0) (SU : US Z) (V : Arv Z h0 t k .byte 4 [(.int (own_b0 c0)), (.int (own_b1 c0)), (.int (own_b0 c1)), (.int (own_b1 c1))] (.int 0)) (hc0 : ¬ c0 < 0 ∧ ¬ (65535 : Int32) < c0) (hc1 : ¬ c1 < 0 ∧ ¬ (65535 : Int32) < c1) (SF : Sta Z Z.heap "jdk/internal/util/Preconditions" "SIOOBE_FORMATTER" "Ljava/util/function/BiFunction;" gF) (rgF : gF.isRef = true) :
    own_MF l Z MN21 jdk_52_method_47_code 4 (some .int) ws (own_R 3 0 0 43) #[(.ref t), (.int wc), (.int (0 : Int32)), (.int (2 : Int32))] h0 (Q_uic_2 Z t wc c0 c1 k gF h0 n0) := by
  have wd := @own_wd _ _ hw
  refine MetFree.of_bodySF (plainFor_of_name pn_java_lang_StringUTF16) hisR ?_
  intro p e s m args below meth c s₁ Bd hml0 hP hK
  obtain ⟨rfl, hZ, hh⟩ := hP
  have hx := Bd.exec
  have hby := Bd.bytes
  have hml : c.maxLocals = 4 := hml0
  have hown : s.vm.findClass "java/lang/StringUTF16" = some m.cls := findClass_of_methodNamed Bd.named
  have hnm := (name_of_methodNamed Bd.named Bd.method).1
  have X0 : Stand p l e (own_R 3 0 0 43) s m #[(.ref t), (.int wc), (.int (0 : Int32)), (.int (2 : Int32))] below meth c s₁ [] 0 0 := Stand.of_body Bd
  have e0 : s₁.heap = h0 := by rw [← hh, Bd.state]; rfl
  have N0 := Fr.nil n0
  refine go_of (A := s₁.setTop (entryFrame m #[(.ref t), (.int wc), (.int (0 : Int32)), (.int (2 : Int32))] 4)) (B := s₁.setTop (mkF m 0 #[.val (.ref t), .val (.int wc), .val (.int (0 : Int32)), .val (.int (2 : Int32))] [])) (fun _ kk' => castTop (ef_uic_2 m t wc) kk') ?_
  refine go_of (B := (s₁.setTop (mkF m 3 #[.val (.ref t), .val (.int wc), .val (.int (0 : Int32)), .val (.int (2 : Int32))] [(.ref t), (.int (2 : Int32)), (.int (0 : Int32))]))) (fun _ kk => XS.iloadN X0.here hx rfl (hb hby d26_0) rfl (XS.iloadN X0.here hx rfl (hb hby d26_1) rfl (XS.aloadN X0.here hx rfl (hb hby d26_2) rfl rfl kk))) ?_
  obtain ⟨_, _, ⟨T1, L1, k1, n1⟩, -, X1, ⟨Lc1, hQ1, l1, y1, z1⟩, st1⟩ := Jvm.LawKit.callS X0 hx (y := MN15) hown (mvT hZ (wd 116 rfl)) (mvT hZ (wd 117 rfl)) (mvT hZ (wd 77 rfl)) (mvT hZ (wd 118 rfl)) (by decide) (backOf (W := 0) (ucbb l Z a0 hw [] (2 : Int32) t (4 : Int32) k _ gF h0 n0 (by omega) O SF rgF V (by decide) (by decide)) hZ (wd 118 rfl) (wd 77 rfl) (by decide) (by decide)) (g := (mkF m 3 #[.val (.ref t), .val (.int wc), .val (.int (0 : Int32)), .val (.int (2 : Int32))] [(.ref t), (.int (2 : Int32)), (.int (0 : Int32))])) rfl (by rw [hml]; rfl) (argsL := [(.int (0 : Int32)), (.int (2 : Int32)), (.ref t)]) (rest := []) (lenOf pd__II_B_V rfl) rfl (Nat.le_of_eq rfl) (hb hby d26_3) (fun _ _ => ⟨rfl, e0, (by decide : 0 + 0 ≤ _), (by decide : 0 + 0 ≤ _)⟩)
  dsimp only [Pt.U, Pt.locs, Pt.cells, Pt.slots] at X1 l1 y1 z1 st1 hQ1
  subst l1 y1 z1
  obtain ⟨rfl, N1q, e1⟩ := hQ1
  have N1 := Fr.app N0 N1q
  refine go_of (B := (T1.setTop (mkF m 6 #[.val (.ref t), .val (.int wc), .val (.int (0 : Int32)), .val (.int (2 : Int32))] []))) (st1) ?_
  refine go_of (B := (T1.setTop (mkF m 10 #[.val (.ref t), .val (.int wc), .val (.int (0 : Int32)), .val (.int (2 : Int32))] [(.int (2 : Int32)), (.int (0 : Int32)), (.int wc), (.ref t)]))) (fun _ kk => XS.aloadN X1.here hx rfl (hb hby d26_6) rfl rfl (XS.iloadN X1.here hx rfl (hb hby d26_7) rfl (XS.iloadN X1.here hx rfl (hb hby d26_8) rfl (XS.iloadN X1.here hx rfl (hb hby d26_9) rfl kk)))) ?_
  obtain ⟨_, _, ⟨T2, L2, k2, n2⟩, -, X2, ⟨Lc2, hQ2, l2, y2, z2⟩, st2⟩ := Jvm.LawKit.callS X1 hx (y := MN22) hown (mvT hZ (wd 130 rfl)) (mvT hZ (wd 131 rfl)) (mvT hZ (wd 77 rfl)) (mvT hZ (wd 132 rfl)) (by decide) (backOf (W := 0) (ucu_2 l Z a0 hw [] t wc c0 c1 k h0 n0 (by omega) O SU V hc0 hc1) hZ (wd 132 rfl) (wd 77 rfl) (by decide) (by decide)) (g := (mkF m 10 #[.val (.ref t), .val (.int wc), .val (.int (0 : Int32)), .val (.int (2 : Int32))] [(.int (2 : Int32)), (.int (0 : Int32)), (.int wc), (.ref t)])) rfl (by rw [hml]; rfl) (argsL := [(.ref t), (.int wc), (.int (0 : Int32)), (.int (2 : Int32))]) (rest := []) (lenOf pd___BIII_I rfl) rfl (Nat.le_of_eq rfl) (hb hby d26_10) (fun _ _ => ⟨rfl, e1, (by decide : 0 + 0 ≤ _), (by decide : 0 + 0 ≤ _)⟩)
  dsimp only [Pt.U, Pt.locs, Pt.cells, Pt.slots] at X2 l2 y2 z2 st2 hQ2
  subst l2 y2 z2
  obtain ⟨r2, rfl, hr2, N2q, e2⟩ := hQ2
  have N2 := Fr.app N1 N2q
  refine go_of (B := (T2.setTop (mkF m 13 #[.val (.ref t), .val (.int wc), .val (.int (0 : Int32)), .val (.int (2 : Int32))] [(.int r2)]))) (st2) ?_
  refine go_end X2 (v := some (.int r2)) (fun h => by rw [Bd.returns] at h; cases h) Bd.notSynchronized (by decide) (by decide) (Q := (Q_uic_2 Z t wc c0 c1 k gF h0 n0)) ?_ (fun fs hr => own_retI X2 hx Bd.returns (hb hby d26_13) hr)
  unfold Q_uic_2
  try rw [e2]
  exact ⟨_, rfl, hr2, N2, rfl⟩
def Q_uio_2 (Z : State) (t : Addr) (wc : Int32) (c0 : Int32) (c1 : Int32) (k : ClassId) (gF : Value) (h0 : Heap) (n0 : Nat) (v : Option Value) (h : Heap) (L : List Loc) : Prop := ∃ r : Int32, v = some (.int r) ∧ (r < 0 ↔ own_hs wc [c0, c1] = false) ∧ Fr n0 L ∧ h = h0
theorem ef_uio_2 (m : MethodId) (t : Addr) (wc : Int32)  : entryFrame m #[(.ref t), (.int wc), (.int (0 : Int32)), (.int (2 : Int32))] 4 = mkF m 0 #[.val (.ref t), .val (.int wc), .val (.int (0 : Int32)), .val (.int (2 : Int32))] [] := by first | (simp [entryFrame, mkF, argsToLocals, Value.category]; done) | rfl
theorem uio_2 (l : Launch) (Z : State) (a0 : Array Value) (hw : TW a0 Z) (ws : List Cond) (t : Addr) (wc : Int32) (c0 : Int32) (c1 : Int32) (k : ClassId) (gF : Value) (h0 : Heap) (n0 : Nat) (Z0 : n0 ≤ h0.size) (O : Old Z n0 h0) (SU : US Z) (V : Arv Z h0 t k .byte 4 [(.int (own_b0 c0)), (.int (own_b1 c0)), (.int (own_b0 c1)), (.int (own_b1 c1))] (.int 0)) (hc0 : ¬ c0 < 0 ∧ ¬ (65535 : Int32) < c0) (hc1 : ¬ c1 < 0 ∧ ¬ (65535 : Int32) < c1) (SF : Sta Z Z.heap "jdk/internal/util/Preconditions" "SIOOBE_FORMATTER" "Ljava/util/function/BiFunction;" gF) (rgF : gF.isRef = true) (hwc : ¬ wc < 0 ∧ ¬ (255 : Int32) < wc) :
    own_MF l Z MN20 jdk_52_method_40_code 4 (some .int) ws (own_R 4 0 0 58) #[(.ref t), (.int wc), (.int (0 : Int32)), (.int (2 : Int32))] h0 (Q_uio_2 Z t wc c0 c1 k gF h0 n0) := by
  have wd := @own_wd _ _ hw
  refine MetFree.of_bodySF (plainFor_of_name pn_java_lang_StringUTF16) hisR ?_
  intro p e s m args below meth c s₁ Bd hml0 hP hK
  obtain ⟨rfl, hZ, hh⟩ := hP
  have hx := Bd.exec
  have hby := Bd.bytes
  have hml : c.maxLocals = 4 := hml0
  have hown : s.vm.findClass "java/lang/StringUTF16" = some m.cls := findClass_of_methodNamed Bd.named
  have hnm := (name_of_methodNamed Bd.named Bd.method).1
  have X0 : Stand p l e (own_R 4 0 0 58) s m #[(.ref t), (.int wc), (.int (0 : Int32)), (.int (2 : Int32))] below meth c s₁ [] 0 0 := Stand.of_body Bd
  have e0 : s₁.heap = h0 := by rw [← hh, Bd.state]; rfl
  have N0 := Fr.nil n0
  refine go_of (A := s₁.setTop (entryFrame m #[(.ref t), (.int wc), (.int (0 : Int32)), (.int (2 : Int32))] 4)) (B := s₁.setTop (mkF m 0 #[.val (.ref t), .val (.int wc), .val (.int (0 : Int32)), .val (.int (2 : Int32))] [])) (fun _ kk' => castTop (ef_uio_2 m t wc) kk') ?_
  refine go_of (B := (s₁.setTop (mkF m 2 #[.val (.ref t), .val (.int wc), .val (.int (0 : Int32)), .val (.int (2 : Int32))] [(.int (0 : Int32)), (.int (0 : Int32))]))) (fun _ kk => XS.iloadN X0.here hx rfl (hb hby d25_0) rfl (XS.iconst X0.here hx rfl (hb hby d25_1) kk)) ?_
  obtain ⟨_, _, ⟨T1, L1, k1, n1⟩, -, X1, ⟨Lc1, hQ1, l1, y1, z1⟩, st1⟩ := Jvm.LawKit.callS X0 hx (y := MN3) hown (mvT hZ (wd 110 rfl)) (mvT hZ (wd 66 rfl)) (mvT hZ (wd 67 rfl)) (mvT hZ (wd 68 rfl)) (by decide) (backOf (W := 0) (v_max l Z a0 hw [] (0 : Int32) (0 : Int32) (0 : Int32) h0 n0 (by omega) (by decide)) hZ (wd 68 rfl) (wd 67 rfl) (by decide) (by decide)) (g := (mkF m 2 #[.val (.ref t), .val (.int wc), .val (.int (0 : Int32)), .val (.int (2 : Int32))] [(.int (0 : Int32)), (.int (0 : Int32))])) rfl (by rw [hml]; rfl) (argsL := [(.int (0 : Int32)), (.int (0 : Int32))]) (rest := []) (lenOf pd__II_I rfl) rfl (Nat.le_of_eq rfl) (hb hby d25_2) (fun _ _ => ⟨rfl, e0, (by decide : 0 + 0 ≤ _), (by decide : 0 + 0 ≤ _)⟩)
  dsimp only [Pt.U, Pt.locs, Pt.cells, Pt.slots] at X1 l1 y1 z1 st1 hQ1
  subst l1 y1 z1
  obtain ⟨rfl, N1q, e1⟩ := hQ1
  have N1 := Fr.app N0 N1q
  refine go_of (B := (T1.setTop (mkF m 5 #[.val (.ref t), .val (.int wc), .val (.int (0 : Int32)), .val (.int (2 : Int32))] [(.int (0 : Int32))]))) (st1) ?_
  refine go_of (B := (T1.setTop (mkF m 8 #[.val (.ref t), .val (.int wc), .val (.int (0 : Int32)), .val (.int (2 : Int32))] [(.ref t), (.int (2 : Int32))]))) (fun _ kk => XS.istoreN X1.here hx rfl (hb hby d25_5) rfl rfl (XS.iloadN X1.here hx rfl (hb hby d25_6) rfl (XS.aloadN X1.here hx rfl (hb hby d25_7) rfl rfl kk))) ?_
  obtain ⟨cl2, Ar2, q2, Sz2, Nn2, Hh2, G2⟩ := id (V)
  have ln2 := len_of Sz2 Nn2
  refine go_of (B := (T1.setTop (mkF m 9 #[.val (.ref t), .val (.int wc), .val (.int (0 : Int32)), .val (.int (2 : Int32))] [(.int (4 : Int32)), (.int (2 : Int32))]))) (fun _ kk => X1.arraylength hx (by rw [e1]; exact Ar2.1) (State.isArrayOf_alike hZ.alike Ar2.2.1) (g := (mkF m 8 #[.val (.ref t), .val (.int wc), .val (.int (0 : Int32)), .val (.int (2 : Int32))] [(.ref t), (.int (2 : Int32))])) rfl rfl (hb hby d25_8) _ (by rw [ln2]; exact kk)) ?_
  refine go_of (B := (T1.setTop (mkF m 11 #[.val (.ref t), .val (.int wc), .val (.int (0 : Int32)), .val (.int (2 : Int32))] [(.int (2 : Int32)), (.int (2 : Int32))]))) (fun _ kk => XS.iconst X1.here hx rfl (hb hby d25_9) (XS.ishr X1.here hx rfl (hb hby d25_10) rfl kk)) ?_
  obtain ⟨_, _, ⟨T3, L3, k3, n3⟩, -, X3, ⟨Lc3, hQ3, l3, y3, z3⟩, st3⟩ := Jvm.LawKit.callS X1 hx (y := MN4) hown (mvT hZ (wd 111 rfl)) (mvT hZ (wd 70 rfl)) (mvT hZ (wd 67 rfl)) (mvT hZ (wd 71 rfl)) (by decide) (backOf (W := 0) (v_min l Z a0 hw [] (2 : Int32) (2 : Int32) (2 : Int32) h0 n0 (by omega) (by decide)) hZ (wd 71 rfl) (wd 67 rfl) (by decide) (by decide)) (g := (mkF m 11 #[.val (.ref t), .val (.int wc), .val (.int (0 : Int32)), .val (.int (2 : Int32))] [(.int (2 : Int32)), (.int (2 : Int32))])) rfl (by rw [hml]; rfl) (argsL := [(.int (2 : Int32)), (.int (2 : Int32))]) (rest := []) (lenOf pd__II_I rfl) rfl (Nat.le_of_eq rfl) (hb hby d25_11) (fun _ _ => ⟨rfl, e1, (by decide : 0 + 0 ≤ _), (by decide : 0 + 0 ≤ _)⟩)
  dsimp only [Pt.U, Pt.locs, Pt.cells, Pt.slots] at X3 l3 y3 z3 st3 hQ3
  subst l3 y3 z3
  obtain ⟨rfl, N3q, e3⟩ := hQ3
  have N3 := Fr.app N1 N3q
  refine go_of (B := (T3.setTop (mkF m 14 #[.val (.ref t), .val (.int wc), .val (.int (0 : Int32)), .val (.int (2 : Int32))] [(.int (2 : Int32))]))) (st3) ?_
  refine go_of (B := (T3.setTop (mkF m 25 #[.val (.ref t), .val (.int wc), .val (.int (0 : Int32)), .val (.int (2 : Int32))] [(.int (65536 : Int32)), (.int wc)]))) (fun _ kk => XS.istoreN X3.here hx rfl (hb hby d25_14) rfl rfl (XS.iloadN X3.here hx rfl (hb hby d25_15) rfl (XS.iloadN X3.here hx rfl (hb hby d25_16) rfl (XS.icmpYes X3.here hx rfl (pc0 := 17) (pc' := 22) rfl (hb hby d25_17) rfl (tlt (by decide : (0 : Int32) < (2 : Int32))).1 (by decide) (by decide) (XS.iloadN X3.here hx rfl (hb hby d25_22) rfl (X3.ldcInt hx hown (mvT hZ (wd 112 rfl)) (g := (mkF m 23 #[.val (.ref t), .val (.int wc), .val (.int (0 : Int32)), .val (.int (2 : Int32))] [(.int wc)])) rfl (hb hby d25_23) _ kk)))))) ?_
  refine go_of (B := (T3.setTop (mkF m 32 #[.val (.ref t), .val (.int wc), .val (.int (0 : Int32)), .val (.int (2 : Int32))] [(.int (2 : Int32)), (.int (0 : Int32)), (.int wc), (.ref t)]))) (fun _ kk => XS.icmpNo X3.here hx rfl (hb hby d25_25) rfl (tlt (own_lt64 hwc)).2.1 (XS.aloadN X3.here hx rfl (hb hby d25_28) rfl rfl (XS.iloadN X3.here hx rfl (hb hby d25_29) rfl (XS.iloadN X3.here hx rfl (hb hby d25_30) rfl (XS.iloadN X3.here hx rfl (hb hby d25_31) rfl kk))))) ?_
  obtain ⟨_, _, ⟨T4, L4, k4, n4⟩, -, X4, ⟨Lc4, hQ4, l4, y4, z4⟩, st4⟩ := Jvm.LawKit.callS X3 hx (y := MN21) hown (mvT hZ (wd 113 rfl)) (mvT hZ (wd 114 rfl)) (mvT hZ (wd 77 rfl)) (mvT hZ (wd 115 rfl)) (by decide) (backOf (W := 0) (uic_2 l Z a0 hw [] t wc c0 c1 k gF h0 n0 (by omega) O SU V hc0 hc1 SF rgF) hZ (wd 115 rfl) (wd 77 rfl) (by decide) (by decide)) (g := (mkF m 32 #[.val (.ref t), .val (.int wc), .val (.int (0 : Int32)), .val (.int (2 : Int32))] [(.int (2 : Int32)), (.int (0 : Int32)), (.int wc), (.ref t)])) rfl (by rw [hml]; rfl) (argsL := [(.ref t), (.int wc), (.int (0 : Int32)), (.int (2 : Int32))]) (rest := []) (lenOf pd___BIII_I rfl) rfl (Nat.le_of_eq rfl) (hb hby d25_32) (fun _ _ => ⟨rfl, e3, (by decide : 0 + 0 ≤ _), (by decide : 0 + 0 ≤ _)⟩)
  dsimp only [Pt.U, Pt.locs, Pt.cells, Pt.slots] at X4 l4 y4 z4 st4 hQ4
  subst l4 y4 z4
  obtain ⟨r4, rfl, hr4, N4q, e4⟩ := hQ4
  have N4 := Fr.app N3 N4q
  refine go_of (B := (T4.setTop (mkF m 35 #[.val (.ref t), .val (.int wc), .val (.int (0 : Int32)), .val (.int (2 : Int32))] [(.int r4)]))) (st4) ?_
  refine go_end X4 (v := some (.int r4)) (fun h => by rw [Bd.returns] at h; cases h) Bd.notSynchronized (by decide) (by decide) (Q := (Q_uio_2 Z t wc c0 c1 k gF h0 n0)) ?_ (fun fs hr => own_retI X4 hx Bd.returns (hb hby d25_35) hr)
  unfold Q_uio_2
  try rw [e4]
  exact ⟨_, rfl, hr4, N4, rfl⟩
def Q_si2l_2 (Z : State) (a : Addr) (wc : Int32) (c0 : Int32) (c1 : Int32) (gC : Int32) (gF : Value) (h0 : Heap) (n0 : Nat) (v : Option Value) (h : Heap) (L : List Loc) : Prop := ∃ r : Int32, v = some (.int r) ∧ (r < 0 ↔ own_hs wc [c0, c1] = false) ∧ Fr n0 L ∧ h = h0
theorem ef_si2l_2 (m : MethodId) (a : Addr) (wc : Int32)  : entryFrame m #[(.ref a), (.int wc), (.int (0 : Int32))] 3 = mkF m 0 #[.val (.ref a), .val (.int wc), .val (.int (0 : Int32))] [] := by first | (simp [entryFrame, mkF, argsToLocals, Value.category]; done) | rfl
theorem si2l_2 (l : Launch) (Z : State) (a0 : Array Value) (hw : TW a0 Z) (ws : List Cond) (a : Addr) (wc : Int32) (c0 : Int32) (c1 : Int32) (gC : Int32) (gF : Value) (h0 : Heap) (n0 : Nat) (Z0 : n0 ≤ h0.size) (O : Old Z n0 h0) (SC : Sta Z Z.heap "java/lang/String" "COMPACT_STRINGS" "Z" (.int gC)) (hgC : ¬ gC = (0 : Int32)) (S : Str Z h0 a 2 [c0, c1]) (SU : US Z) (SF : Sta Z Z.heap "jdk/internal/util/Preconditions" "SIOOBE_FORMATTER" "Ljava/util/function/BiFunction;" gF) (rgF : gF.isRef = true) (hwc : ¬ wc < 0 ∧ ¬ (255 : Int32) < wc) :
    own_MF l Z MN9 jdk_42_method_80_code 3 (some .int) ws (own_R 5 0 0 73) #[(.ref a), (.int wc), (.int (0 : Int32))] h0 (Q_si2l_2 Z a wc c0 c1 gC gF h0 n0) := by
  have wd := @own_wd _ _ hw
  refine MetFree.of_bodySF (plainFor_of_name pn_java_lang_String) hisR ?_
  intro p e s m args below meth c s₁ Bd hml0 hP hK
  obtain ⟨rfl, hZ, hh⟩ := hP
  have hx := Bd.exec
  have hby := Bd.bytes
  have hml : c.maxLocals = 3 := hml0
  have hown : s.vm.findClass "java/lang/String" = some m.cls := findClass_of_methodNamed Bd.named
  have hnm := (name_of_methodNamed Bd.named Bd.method).1
  have X0 : Stand p l e (own_R 5 0 0 73) s m #[(.ref a), (.int wc), (.int (0 : Int32))] below meth c s₁ [] 0 0 := Stand.of_body Bd
  have e0 : s₁.heap = h0 := by rw [← hh, Bd.state]; rfl
  have N0 := Fr.nil n0
  obtain ⟨t, k, Ea, Fc, Fv, Va, hcs⟩ := (id S)
  have lta := own_nlt (Ea.lt)
  have ltt := own_nlt (Va.lt)
  refine go_of (A := s₁.setTop (entryFrame m #[(.ref a), (.int wc), (.int (0 : Int32))] 3)) (B := s₁.setTop (mkF m 0 #[.val (.ref a), .val (.int wc), .val (.int (0 : Int32))] [])) (fun _ kk' => castTop (ef_si2l_2 m a wc) kk') ?_
  refine go_of (B := (s₁.setTop (mkF m 1 #[.val (.ref a), .val (.int wc), .val (.int (0 : Int32))] [(.ref a)]))) (fun _ kk => XS.aloadN X0.here hx rfl (hb hby d7_0) rfl rfl kk) ?_
  obtain ⟨cq1, kq1, q1a, q1b, q1c⟩ := isOf hZ e0 Ea
  obtain ⟨_, _, ⟨T1, L1, k1, n1⟩, -, X1, ⟨Lc1, hQ1, l1, y1, z1⟩, st1⟩ := X0.virtualBack hx (y := MN10) (z := MN10) hown (mvT hZ (wd 42 rfl)) (mvT hZ (wd 43 rfl)) (notFace_of_selects (args := #[]) (mvT hZ (wd 45 rfl))) (mvT hZ (wd 45 rfl)) (mvT hZ (wd 44 rfl)) (by decide) (backOf (W := 0) (str_latin l Z a0 hw [] a gC h0 n0 (by omega) O SC hgC Fc) hZ (wd 46 rfl) (wd 9 rfl) (by decide) (by decide)) q1a q1c (g := (mkF m 1 #[.val (.ref a), .val (.int wc), .val (.int (0 : Int32))] [(.ref a)])) rfl (by rw [hml]; rfl) (Steps.refl _) (argsL := []) (rest := []) (lenOf pd___Z rfl) rfl (Nat.le_of_eq rfl) (hb hby d7_1) (fun _ _ => ⟨rfl, e0, (by decide : 0 + 0 ≤ _), (by decide : 0 + 0 ≤ _)⟩)
  dsimp only [Pt.U, Pt.locs, Pt.cells, Pt.slots] at X1 l1 y1 z1 st1 hQ1
  subst l1 y1 z1
  obtain ⟨rfl, N1q, e1⟩ := hQ1
  have N1 := Fr.app N0 N1q
  refine go_tr (B := (T1.setTop (mkF m 4 #[.val (.ref a), .val (.int wc), .val (.int (0 : Int32))] [(.int (1 : Int32))]))) (st1) ?_
  refine go_of (B := (T1.setTop (mkF m 8 #[.val (.ref a), .val (.int wc), .val (.int (0 : Int32))] [(.ref a)]))) (fun _ kk => XS.ifNo X1.here hx rfl (hb hby d7_4) rfl ((if0 _ _).trans (feq (by decide : ¬ ((1 : Int32) = (0 : Int32)))).1) (XS.aloadN X1.here hx rfl (hb hby d7_7) rfl rfl kk)) ?_
  obtain ⟨T2, X2, e2, st2⟩ := getF X1 hx hZ hown (host := "") (Or.inl (wd 26 rfl)) Via.refl e1 Fv (g := (mkF m 8 #[.val (.ref a), .val (.int wc), .val (.int (0 : Int32))] [(.ref a)])) rfl rfl (hb hby d7_8)
  refine go_of (B := (T2.setTop (mkF m 11 #[.val (.ref a), .val (.int wc), .val (.int (0 : Int32))] [(.ref t)]))) (st2) ?_
  refine go_of (B := (T2.setTop (mkF m 14 #[.val (.ref a), .val (.int wc), .val (.int (0 : Int32))] [(.ref a), (.int (0 : Int32)), (.int wc), (.ref t)]))) (fun _ kk => XS.iloadN X2.here hx rfl (hb hby d7_11) rfl (XS.iloadN X2.here hx rfl (hb hby d7_12) rfl (XS.aloadN X2.here hx rfl (hb hby d7_13) rfl rfl kk))) ?_
  obtain ⟨cq3, kq3, q3a, q3b, q3c⟩ := isOf hZ e2 Ea
  obtain ⟨_, _, ⟨T3, L3, k3, n3⟩, -, X3, ⟨Lc3, hQ3, l3, y3, z3⟩, st3⟩ := X2.virtualBack hx (y := MN11) (z := MN11) hown (mvT hZ (wd 48 rfl)) (mvT hZ (wd 49 rfl)) (notFace_of_selects (args := #[]) (mvT hZ (wd 51 rfl))) (mvT hZ (wd 51 rfl)) (mvT hZ (wd 50 rfl)) (by decide) (backOf (W := 3) (u_len l Z a0 hw [] a (2 : Int32) (4 : Int32) [c0, c1] gC h0 n0 (by omega) O SC hgC (Or.inl S) (by decide)) hZ (wd 52 rfl) (wd 9 rfl) (by decide) (by decide)) q3a q3c (g := (mkF m 14 #[.val (.ref a), .val (.int wc), .val (.int (0 : Int32))] [(.ref a), (.int (0 : Int32)), (.int wc), (.ref t)])) rfl (by rw [hml]; rfl) (Steps.refl _) (argsL := []) (rest := [(.int (0 : Int32)), (.int wc), (.ref t)]) (lenOf pd___I rfl) rfl (Nat.le_of_eq rfl) (hb hby d7_14) (fun _ _ => ⟨rfl, e2, (by decide : 0 + 0 ≤ _), (by decide : 0 + 0 ≤ _)⟩)
  dsimp only [Pt.U, Pt.locs, Pt.cells, Pt.slots] at X3 l3 y3 z3 st3 hQ3
  subst l3 y3 z3
  obtain ⟨rfl, N3q, e3⟩ := hQ3
  have N3 := Fr.app N1 N3q
  refine go_tr (B := (T3.setTop (mkF m 17 #[.val (.ref a), .val (.int wc), .val (.int (0 : Int32))] [(.int (2 : Int32)), (.int (0 : Int32)), (.int wc), (.ref t)]))) (st3) ?_
  obtain ⟨_, _, ⟨T4, L4, k4, n4⟩, -, X4, ⟨Lc4, hQ4, l4, y4, z4⟩, st4⟩ := Jvm.LawKit.callS X3 hx (y := MN13) hown (mvT hZ (wd 58 rfl)) (mvT hZ (wd 59 rfl)) (mvT hZ (wd 60 rfl)) (mvT hZ (wd 61 rfl)) (by decide) (backOf (W := 0) (lio_2 l Z a0 hw [] t wc (own_b8 c0) (own_b8 c1) k h0 n0 (by omega) Va hwc) hZ (wd 61 rfl) (wd 60 rfl) (by decide) (by decide)) (g := (mkF m 17 #[.val (.ref a), .val (.int wc), .val (.int (0 : Int32))] [(.int (2 : Int32)), (.int (0 : Int32)), (.int wc), (.ref t)])) rfl (by rw [hml]; rfl) (argsL := [(.ref t), (.int wc), (.int (0 : Int32)), (.int (2 : Int32))]) (rest := []) (lenOf pd___BIII_I rfl) rfl (Nat.le_of_eq rfl) (hb hby d7_17) (fun _ _ => ⟨rfl, e3, (by decide : 0 + 0 ≤ _), (by decide : 0 + 0 ≤ _)⟩)
  dsimp only [Pt.U, Pt.locs, Pt.cells, Pt.slots] at X4 l4 y4 z4 st4 hQ4
  subst l4 y4 z4
  obtain ⟨r4, rfl, hr4, N4q, e4⟩ := hQ4
  have N4 := Fr.app N3 N4q
  refine go_of (B := (T4.setTop (mkF m 20 #[.val (.ref a), .val (.int wc), .val (.int (0 : Int32))] [(.int r4)]))) (st4) ?_
  refine go_of (B := (T4.setTop (mkF m 36 #[.val (.ref a), .val (.int wc), .val (.int (0 : Int32))] [(.int r4)]))) (fun _ kk => XS.goto X4.here hx rfl (pc0 := 20) (pc' := 36) rfl (hb hby d7_20) (by decide) (by decide) kk) ?_
  refine go_end X4 (v := some (.int r4)) (fun h => by rw [Bd.returns] at h; cases h) Bd.notSynchronized (by decide) (by decide) (Q := (Q_si2l_2 Z a wc c0 c1 gC gF h0 n0)) ?_ (fun fs hr => own_retI X4 hx Bd.returns (hb hby d7_36) hr)
  unfold Q_si2l_2
  try rw [e4]
  exact ⟨_, rfl, hr4.trans (iff_of_eq (congrArg (fun b => b = false) (own_hsb wc hwc [c0, c1] hcs))), N4, rfl⟩
def Q_si2w_2 (Z : State) (a : Addr) (wc : Int32) (c0 : Int32) (c1 : Int32) (gC : Int32) (gF : Value) (h0 : Heap) (n0 : Nat) (v : Option Value) (h : Heap) (L : List Loc) : Prop := ∃ r : Int32, v = some (.int r) ∧ (r < 0 ↔ own_hs wc [c0, c1] = false) ∧ Fr n0 L ∧ h = h0
theorem ef_si2w_2 (m : MethodId) (a : Addr) (wc : Int32)  : entryFrame m #[(.ref a), (.int wc), (.int (0 : Int32))] 3 = mkF m 0 #[.val (.ref a), .val (.int wc), .val (.int (0 : Int32))] [] := by first | (simp [entryFrame, mkF, argsToLocals, Value.category]; done) | rfl
theorem si2w_2 (l : Launch) (Z : State) (a0 : Array Value) (hw : TW a0 Z) (ws : List Cond) (a : Addr) (wc : Int32) (c0 : Int32) (c1 : Int32) (gC : Int32) (gF : Value) (h0 : Heap) (n0 : Nat) (Z0 : n0 ≤ h0.size) (O : Old Z n0 h0) (SC : Sta Z Z.heap "java/lang/String" "COMPACT_STRINGS" "Z" (.int gC)) (hgC : ¬ gC = (0 : Int32)) (S : StrW Z h0 a 4 [c0, c1]) (SU : US Z) (SF : Sta Z Z.heap "jdk/internal/util/Preconditions" "SIOOBE_FORMATTER" "Ljava/util/function/BiFunction;" gF) (rgF : gF.isRef = true) (hwc : ¬ wc < 0 ∧ ¬ (255 : Int32) < wc) :
    own_MF l Z MN9 jdk_42_method_80_code 3 (some .int) ws (own_R 5 0 0 73) #[(.ref a), (.int wc), (.int (0 : Int32))] h0 (Q_si2w_2 Z a wc c0 c1 gC gF h0 n0) := by
  have wd := @own_wd _ _ hw
  refine MetFree.of_bodySF (plainFor_of_name pn_java_lang_String) hisR ?_
  intro p e s m args below meth c s₁ Bd hml0 hP hK
  obtain ⟨rfl, hZ, hh⟩ := hP
  have hx := Bd.exec
  have hby := Bd.bytes
  have hml : c.maxLocals = 3 := hml0
  have hown : s.vm.findClass "java/lang/String" = some m.cls := findClass_of_methodNamed Bd.named
  have hnm := (name_of_methodNamed Bd.named Bd.method).1
  have X0 : Stand p l e (own_R 5 0 0 73) s m #[(.ref a), (.int wc), (.int (0 : Int32))] below meth c s₁ [] 0 0 := Stand.of_body Bd
  have e0 : s₁.heap = h0 := by rw [← hh, Bd.state]; rfl
  have N0 := Fr.nil n0
  obtain ⟨t, k, Ea, Fc, Fv, Va, hcs⟩ := id S
  have hc0 : ¬ c0 < 0 ∧ ¬ (65535 : Int32) < c0 := hcs c0 (List.mem_of_getElem? (i := 0) rfl)
  have hc1 : ¬ c1 < 0 ∧ ¬ (65535 : Int32) < c1 := hcs c1 (List.mem_of_getElem? (i := 1) rfl)
  refine go_of (A := s₁.setTop (entryFrame m #[(.ref a), (.int wc), (.int (0 : Int32))] 3)) (B := s₁.setTop (mkF m 0 #[.val (.ref a), .val (.int wc), .val (.int (0 : Int32))] [])) (fun _ kk' => castTop (ef_si2w_2 m a wc) kk') ?_
  refine go_of (B := (s₁.setTop (mkF m 1 #[.val (.ref a), .val (.int wc), .val (.int (0 : Int32))] [(.ref a)]))) (fun _ kk => XS.aloadN X0.here hx rfl (hb hby d7_0) rfl rfl kk) ?_
  obtain ⟨cq1, kq1, q1a, q1b, q1c⟩ := isOf hZ e0 Ea
  obtain ⟨_, _, ⟨T1, L1, k1, n1⟩, -, X1, ⟨Lc1, hQ1, l1, y1, z1⟩, st1⟩ := X0.virtualBack hx (y := MN10) (z := MN10) hown (mvT hZ (wd 42 rfl)) (mvT hZ (wd 43 rfl)) (notFace_of_selects (args := #[]) (mvT hZ (wd 45 rfl))) (mvT hZ (wd 45 rfl)) (mvT hZ (wd 44 rfl)) (by decide) (backOf (W := 0) (u_lat l Z a0 hw [] a gC h0 n0 (by omega) O SC hgC Fc) hZ (wd 46 rfl) (wd 9 rfl) (by decide) (by decide)) q1a q1c (g := (mkF m 1 #[.val (.ref a), .val (.int wc), .val (.int (0 : Int32))] [(.ref a)])) rfl (by rw [hml]; rfl) (Steps.refl _) (argsL := []) (rest := []) (lenOf pd___Z rfl) rfl (Nat.le_of_eq rfl) (hb hby d7_1) (fun _ _ => ⟨rfl, e0, (by decide : 0 + 0 ≤ _), (by decide : 0 + 0 ≤ _)⟩)
  dsimp only [Pt.U, Pt.locs, Pt.cells, Pt.slots] at X1 l1 y1 z1 st1 hQ1
  subst l1 y1 z1
  obtain ⟨rfl, N1q, e1⟩ := hQ1
  have N1 := Fr.app N0 N1q
  refine go_tr (B := (T1.setTop (mkF m 4 #[.val (.ref a), .val (.int wc), .val (.int (0 : Int32))] [(.int (0 : Int32))]))) (st1) ?_
  refine go_of (B := (T1.setTop (mkF m 24 #[.val (.ref a), .val (.int wc), .val (.int (0 : Int32))] [(.ref a)]))) (fun _ kk => XS.ifYes X1.here hx rfl (pc0 := 4) (pc' := 23) rfl (hb hby d7_4) rfl ((if0 _ _).trans (teq (by decide : (0 : Int32) = (0 : Int32))).1) (by decide) (by decide) (XS.aloadN X1.here hx rfl (hb hby d7_23) rfl rfl kk)) ?_
  obtain ⟨T2, X2, e2, st2⟩ := getF X1 hx hZ hown (host := "") (Or.inl (wd 26 rfl)) Via.refl e1 Fv (g := (mkF m 24 #[.val (.ref a), .val (.int wc), .val (.int (0 : Int32))] [(.ref a)])) rfl rfl (hb hby d7_24)
  refine go_of (B := (T2.setTop (mkF m 27 #[.val (.ref a), .val (.int wc), .val (.int (0 : Int32))] [(.ref t)]))) (st2) ?_
  refine go_of (B := (T2.setTop (mkF m 30 #[.val (.ref a), .val (.int wc), .val (.int (0 : Int32))] [(.ref a), (.int (0 : Int32)), (.int wc), (.ref t)]))) (fun _ kk => XS.iloadN X2.here hx rfl (hb hby d7_27) rfl (XS.iloadN X2.here hx rfl (hb hby d7_28) rfl (XS.aloadN X2.here hx rfl (hb hby d7_29) rfl rfl kk))) ?_
  obtain ⟨cq3, kq3, q3a, q3b, q3c⟩ := isOf hZ e2 Ea
  obtain ⟨_, _, ⟨T3, L3, k3, n3⟩, -, X3, ⟨Lc3, hQ3, l3, y3, z3⟩, st3⟩ := X2.virtualBack hx (y := MN11) (z := MN11) hown (mvT hZ (wd 48 rfl)) (mvT hZ (wd 49 rfl)) (notFace_of_selects (args := #[]) (mvT hZ (wd 51 rfl))) (mvT hZ (wd 51 rfl)) (mvT hZ (wd 50 rfl)) (by decide) (backOf (W := 3) (u_len l Z a0 hw [] a (2 : Int32) (4 : Int32) [c0, c1] gC h0 n0 (by omega) O SC hgC (Or.inr S) (by decide)) hZ (wd 52 rfl) (wd 9 rfl) (by decide) (by decide)) q3a q3c (g := (mkF m 30 #[.val (.ref a), .val (.int wc), .val (.int (0 : Int32))] [(.ref a), (.int (0 : Int32)), (.int wc), (.ref t)])) rfl (by rw [hml]; rfl) (Steps.refl _) (argsL := []) (rest := [(.int (0 : Int32)), (.int wc), (.ref t)]) (lenOf pd___I rfl) rfl (Nat.le_of_eq rfl) (hb hby d7_30) (fun _ _ => ⟨rfl, e2, (by decide : 0 + 0 ≤ _), (by decide : 0 + 0 ≤ _)⟩)
  dsimp only [Pt.U, Pt.locs, Pt.cells, Pt.slots] at X3 l3 y3 z3 st3 hQ3
  subst l3 y3 z3
  obtain ⟨rfl, N3q, e3⟩ := hQ3
  have N3 := Fr.app N1 N3q
  refine go_tr (B := (T3.setTop (mkF m 33 #[.val (.ref a), .val (.int wc), .val (.int (0 : Int32))] [(.int (2 : Int32)), (.int (0 : Int32)), (.int wc), (.ref t)]))) (st3) ?_
  obtain ⟨_, _, ⟨T4, L4, k4, n4⟩, -, X4, ⟨Lc4, hQ4, l4, y4, z4⟩, st4⟩ := Jvm.LawKit.callS X3 hx (y := MN20) hown (mvT hZ (wd 107 rfl)) (mvT hZ (wd 108 rfl)) (mvT hZ (wd 77 rfl)) (mvT hZ (wd 109 rfl)) (by decide) (backOf (W := 0) (uio_2 l Z a0 hw [] t wc c0 c1 k gF h0 n0 (by omega) O SU Va hc0 hc1 SF rgF hwc) hZ (wd 109 rfl) (wd 77 rfl) (by decide) (by decide)) (g := (mkF m 33 #[.val (.ref a), .val (.int wc), .val (.int (0 : Int32))] [(.int (2 : Int32)), (.int (0 : Int32)), (.int wc), (.ref t)])) rfl (by rw [hml]; rfl) (argsL := [(.ref t), (.int wc), (.int (0 : Int32)), (.int (2 : Int32))]) (rest := []) (lenOf pd___BIII_I rfl) rfl (Nat.le_of_eq rfl) (hb hby d7_33) (fun _ _ => ⟨rfl, e3, (by decide : 0 + 0 ≤ _), (by decide : 0 + 0 ≤ _)⟩)
  dsimp only [Pt.U, Pt.locs, Pt.cells, Pt.slots] at X4 l4 y4 z4 st4 hQ4
  subst l4 y4 z4
  obtain ⟨r4, rfl, hr4, N4q, e4⟩ := hQ4
  have N4 := Fr.app N3 N4q
  refine go_of (B := (T4.setTop (mkF m 36 #[.val (.ref a), .val (.int wc), .val (.int (0 : Int32))] [(.int r4)]))) (st4) ?_
  refine go_end X4 (v := some (.int r4)) (fun h => by rw [Bd.returns] at h; cases h) Bd.notSynchronized (by decide) (by decide) (Q := (Q_si2w_2 Z a wc c0 c1 gC gF h0 n0)) ?_ (fun fs hr => own_retI X4 hx Bd.returns (hb hby d7_36) hr)
  unfold Q_si2w_2
  try rw [e4]
  exact ⟨_, rfl, hr4, N4, rfl⟩
theorem si2_2 (l : Launch) (Z : State) (a0 : Array Value) (hw : ∀ d ∈ tables_1, d.before a0 Z = true) (ws : List Cond) (a : Addr) (wc c0 c1 gC : Int32) (gF : Value) (h0 : Heap) (n0 : Nat) (Z0 : n0 ≤ h0.size) (O : Old Z n0 h0) (SC : Sta Z Z.heap "java/lang/String" "COMPACT_STRINGS" "Z" (.int gC)) (hgC : ¬ gC = (0 : Int32)) (S : StrU Z h0 a 2 4 [c0, c1]) (SU : US Z) (SF : Sta Z Z.heap "jdk/internal/util/Preconditions" "SIOOBE_FORMATTER" "Ljava/util/function/BiFunction;" gF) (rgF : gF.isRef = true) (hwc : ¬ wc < 0 ∧ ¬ (255 : Int32) < wc) :
    MetFree l MN9 (head1 (Jvm.Cond.code MN9 jdk_42_method_80_code 3 (some .int) :: ws) (own_R 5 0 0 73)) (fun aa' U1' => aa' = #[(.ref a), (.int wc), (.int (0 : Int32))] ∧ Z.Warmed39 U1'.vm ∧ U1'.heap = h0) (fun _ _ _ _ _ => True) (fun _ U1' oo' U2' => ∃ vv' LL', oo' = .returned vv' ∧ (Q_si2l_2 Z a wc c0 c1 gC gF h0 n0) vv' U2'.heap LL' ∧ FrameEnd U1' oo' U2' LL' (own_R 5 0 0 73).cells (own_R 5 0 0 73).slots) := by
  rcases S with S | S
  · exact si2l_2 l Z a0 hw ws a wc c0 c1 gC gF h0 n0 Z0 O SC hgC S SU SF rgF hwc
  · exact si2w_2 l Z a0 hw ws a wc c0 c1 gC gF h0 n0 Z0 O SC hgC S SU SF rgF hwc
def Q_si_2 (Z : State) (a : Addr) (wc : Int32) (c0 : Int32) (c1 : Int32) (gC : Int32) (gF : Value) (h0 : Heap) (n0 : Nat) (v : Option Value) (h : Heap) (L : List Loc) : Prop := ∃ r : Int32, v = some (.int r) ∧ (r < 0 ↔ own_hs wc [c0, c1] = false) ∧ Fr n0 L ∧ h = h0
theorem ef_si_2 (m : MethodId) (a : Addr) (wc : Int32)  : entryFrame m #[(.ref a), (.int wc)] 2 = mkF m 0 #[.val (.ref a), .val (.int wc)] [] := by first | (simp [entryFrame, mkF, argsToLocals, Value.category]; done) | rfl
theorem si_2 (l : Launch) (Z : State) (a0 : Array Value) (hw : TW a0 Z) (ws : List Cond) (a : Addr) (wc : Int32) (c0 : Int32) (c1 : Int32) (gC : Int32) (gF : Value) (h0 : Heap) (n0 : Nat) (Z0 : n0 ≤ h0.size) (O : Old Z n0 h0) (SC : Sta Z Z.heap "java/lang/String" "COMPACT_STRINGS" "Z" (.int gC)) (hgC : ¬ gC = (0 : Int32)) (S : StrU Z h0 a 2 4 [c0, c1]) (SU : US Z) (SF : Sta Z Z.heap "jdk/internal/util/Preconditions" "SIOOBE_FORMATTER" "Ljava/util/function/BiFunction;" gF) (rgF : gF.isRef = true) (hwc : ¬ wc < 0 ∧ ¬ (255 : Int32) < wc) :
    own_MF l Z MN8 jdk_42_method_79_code 2 (some .int) ws (own_R 6 0 0 87) #[(.ref a), (.int wc)] h0 (Q_si_2 Z a wc c0 c1 gC gF h0 n0) := by
  have wd := @own_wd _ _ hw
  refine MetFree.of_bodySF (plainFor_of_name pn_java_lang_String) hisR ?_
  intro p e s m args below meth c s₁ Bd hml0 hP hK
  obtain ⟨rfl, hZ, hh⟩ := hP
  have hx := Bd.exec
  have hby := Bd.bytes
  have hml : c.maxLocals = 2 := hml0
  have hown : s.vm.findClass "java/lang/String" = some m.cls := findClass_of_methodNamed Bd.named
  have hnm := (name_of_methodNamed Bd.named Bd.method).1
  have X0 : Stand p l e (own_R 6 0 0 87) s m #[(.ref a), (.int wc)] below meth c s₁ [] 0 0 := Stand.of_body Bd
  have e0 : s₁.heap = h0 := by rw [← hh, Bd.state]; rfl
  have N0 := Fr.nil n0
  refine go_of (A := s₁.setTop (entryFrame m #[(.ref a), (.int wc)] 2)) (B := s₁.setTop (mkF m 0 #[.val (.ref a), .val (.int wc)] [])) (fun _ kk' => castTop (ef_si_2 m a wc) kk') ?_
  refine go_of (B := (s₁.setTop (mkF m 3 #[.val (.ref a), .val (.int wc)] [(.int (0 : Int32)), (.int wc), (.ref a)]))) (fun _ kk => XS.aloadN X0.here hx rfl (hb hby d6_0) rfl rfl (XS.iloadN X0.here hx rfl (hb hby d6_1) rfl (XS.iconst X0.here hx rfl (hb hby d6_2) kk))) ?_
  obtain ⟨cq1, kq1, q1a, q1b, q1c⟩ := isOf hZ e0 S.exa
  obtain ⟨_, _, ⟨T1, L1, k1, n1⟩, -, X1, ⟨Lc1, hQ1, l1, y1, z1⟩, st1⟩ := X0.virtualBack hx (y := MN9) (z := MN9) hown (mvT hZ (wd 37 rfl)) (mvT hZ (wd 38 rfl)) (notFace_of_selects (args := #[]) (mvT hZ (wd 40 rfl))) (mvT hZ (wd 40 rfl)) (mvT hZ (wd 39 rfl)) (by decide) (backOf (W := 0) (si2_2 l Z a0 hw [] a wc c0 c1 gC gF h0 n0 (by omega) O SC hgC S SU SF rgF hwc) hZ (wd 41 rfl) (wd 9 rfl) (by decide) (by decide)) q1a q1c (g := (mkF m 3 #[.val (.ref a), .val (.int wc)] [(.int (0 : Int32)), (.int wc), (.ref a)])) rfl (by rw [hml]; rfl) (Steps.refl _) (argsL := [(.int wc), (.int (0 : Int32))]) (rest := []) (lenOf pd__II_I rfl) rfl (Nat.le_of_eq rfl) (hb hby d6_3) (fun _ _ => ⟨rfl, e0, (by decide : 0 + 0 ≤ _), (by decide : 0 + 0 ≤ _)⟩)
  dsimp only [Pt.U, Pt.locs, Pt.cells, Pt.slots] at X1 l1 y1 z1 st1 hQ1
  subst l1 y1 z1
  obtain ⟨r1, rfl, hr1, N1q, e1⟩ := hQ1
  have N1 := Fr.app N0 N1q
  refine go_tr (B := (T1.setTop (mkF m 6 #[.val (.ref a), .val (.int wc)] [(.int r1)]))) (st1) ?_
  refine go_end X1 (v := some (.int r1)) (fun h => by rw [Bd.returns] at h; cases h) Bd.notSynchronized (by decide) (by decide) (Q := (Q_si_2 Z a wc c0 c1 gC gF h0 n0)) ?_ (fun fs hr => own_retI X1 hx Bd.returns (hb hby d6_6) hr)
  unfold Q_si_2
  try rw [e1]
  exact ⟨_, rfl, hr1, N1, rfl⟩
def Q_isl_2 (Z : State) (a : Addr) (c0 : Int32) (c1 : Int32) (gC : Int32) (gF : Value) (h0 : Heap) (n0 : Nat) (v : Option Value) (h : Heap) (L : List Loc) : Prop := v = some (.int (own_lit [c0, c1])) ∧ Fr n0 L ∧ h = h0
theorem ef_isl_2 (m : MethodId) (a : Addr)  : entryFrame m #[(.ref a)] 1 = mkF m 0 #[.val (.ref a)] [] := by first | (simp [entryFrame, mkF, argsToLocals, Value.category]; done) | rfl
theorem isl_2 (l : Launch) (Z : State) (a0 : Array Value) (hw : TW a0 Z) (ws : List Cond) (a : Addr) (c0 : Int32) (c1 : Int32) (gC : Int32) (gF : Value) (h0 : Heap) (n0 : Nat) (Z0 : n0 ≤ h0.size) (O : Old Z n0 h0) (SC : Sta Z Z.heap "java/lang/String" "COMPACT_STRINGS" "Z" (.int gC)) (hgC : ¬ gC = (0 : Int32)) (S : StrU Z h0 a 2 4 [c0, c1]) (SU : US Z) (SF : Sta Z Z.heap "jdk/internal/util/Preconditions" "SIOOBE_FORMATTER" "Ljava/util/function/BiFunction;" gF) (rgF : gF.isRef = true) :
    own_MF l Z MN0 prog_12_method_3_code 1 (some .boolean) ws (own_R 7 0 0 100) #[(.ref a)] h0 (Q_isl_2 Z a c0 c1 gC gF h0 n0) := by
  have wd := @own_wd _ _ hw
  refine MetFree.of_bodySF (plainFor_of_name pn_com_example_grantline_grantline_Glob) hisR ?_
  intro p e s m args below meth c s₁ Bd hml0 hP hK
  obtain ⟨rfl, hZ, hh⟩ := hP
  have hx := Bd.exec
  have hby := Bd.bytes
  have hml : c.maxLocals = 1 := hml0
  have hown : s.vm.findClass "com/example/grantline/grantline/Glob" = some m.cls := findClass_of_methodNamed Bd.named
  have hnm := (name_of_methodNamed Bd.named Bd.method).1
  have X0 : Stand p l e (own_R 7 0 0 100) s m #[(.ref a)] below meth c s₁ [] 0 0 := Stand.of_body Bd
  have e0 : s₁.heap = h0 := by rw [← hh, Bd.state]; rfl
  have N0 := Fr.nil n0
  refine go_of (A := s₁.setTop (entryFrame m #[(.ref a)] 1)) (B := s₁.setTop (mkF m 0 #[.val (.ref a)] [])) (fun _ kk' => castTop (ef_isl_2 m a) kk') ?_
  refine go_of (B := (s₁.setTop (mkF m 3 #[.val (.ref a)] [(.int (42 : Int32)), (.ref a)]))) (fun _ kk => XS.aloadN X0.here hx rfl (hb hby d5_0) rfl rfl (XS.bipush X0.here hx rfl (hb hby d5_1) kk)) ?_
  obtain ⟨cq1, kq1, q1a, q1b, q1c⟩ := isOf hZ e0 S.exa
  obtain ⟨_, _, ⟨T1, L1, k1, n1⟩, -, X1, ⟨Lc1, hQ1, l1, y1, z1⟩, st1⟩ := X0.virtualBack hx (y := MN8) (z := MN8) hown (mvT hZ (wd 32 rfl)) (mvT hZ (wd 33 rfl)) (notFace_of_selects (args := #[]) (mvT hZ (wd 35 rfl))) (mvT hZ (wd 35 rfl)) (mvT hZ (wd 34 rfl)) (by decide) (backOf (W := 0) (si_2 l Z a0 hw [] a (42 : Int32) c0 c1 gC gF h0 n0 (by omega) O SC hgC S SU SF rgF (by decide)) hZ (wd 36 rfl) (wd 9 rfl) (by decide) (by decide)) q1a q1c (g := (mkF m 3 #[.val (.ref a)] [(.int (42 : Int32)), (.ref a)])) rfl (by rw [hml]; rfl) (Steps.refl _) (argsL := [(.int (42 : Int32))]) (rest := []) (lenOf pd__I_I rfl) rfl (Nat.le_of_eq rfl) (hb hby d5_3) (fun _ _ => ⟨rfl, e0, (by decide : 0 + 0 ≤ _), (by decide : 0 + 0 ≤ _)⟩)
  dsimp only [Pt.U, Pt.locs, Pt.cells, Pt.slots] at X1 l1 y1 z1 st1 hQ1
  subst l1 y1 z1
  obtain ⟨r1, rfl, hr1, N1q, e1⟩ := hQ1
  have N1 := Fr.app N0 N1q
  refine go_tr (B := (T1.setTop (mkF m 6 #[.val (.ref a)] [(.int r1)]))) (st1) ?_
  by_cases hcc2 : r1 < (0 : Int32)
  · refine go_of (B := (T1.setTop (mkF m 12 #[.val (.ref a)] [(.int (63 : Int32)), (.ref a)]))) (fun _ kk => XS.ifNo X1.here hx rfl (hb hby d5_6) rfl ((if0 _ _).trans (tlt hcc2).2.1) (XS.aloadN X1.here hx rfl (hb hby d5_9) rfl rfl (XS.bipush X1.here hx rfl (hb hby d5_10) kk))) ?_
    obtain ⟨cq3, kq3, q3a, q3b, q3c⟩ := isOf hZ e1 S.exa
    obtain ⟨_, _, ⟨T3, L3, k3, n3⟩, -, X3, ⟨Lc3, hQ3, l3, y3, z3⟩, st3⟩ := X1.virtualBack hx (y := MN8) (z := MN8) hown (mvT hZ (wd 32 rfl)) (mvT hZ (wd 33 rfl)) (notFace_of_selects (args := #[]) (mvT hZ (wd 35 rfl))) (mvT hZ (wd 35 rfl)) (mvT hZ (wd 34 rfl)) (by decide) (backOf (W := 0) (si_2 l Z a0 hw [] a (63 : Int32) c0 c1 gC gF h0 n0 (by omega) O SC hgC S SU SF rgF (by decide)) hZ (wd 36 rfl) (wd 9 rfl) (by decide) (by decide)) q3a q3c (g := (mkF m 12 #[.val (.ref a)] [(.int (63 : Int32)), (.ref a)])) rfl (by rw [hml]; rfl) (Steps.refl _) (argsL := [(.int (63 : Int32))]) (rest := []) (lenOf pd__I_I rfl) rfl (Nat.le_of_eq rfl) (hb hby d5_12) (fun _ _ => ⟨rfl, e1, (by decide : 0 + 0 ≤ _), (by decide : 0 + 0 ≤ _)⟩)
    dsimp only [Pt.U, Pt.locs, Pt.cells, Pt.slots] at X3 l3 y3 z3 st3 hQ3
    subst l3 y3 z3
    obtain ⟨r3, rfl, hr3, N3q, e3⟩ := hQ3
    have N3 := Fr.app N1 N3q
    refine go_tr (B := (T3.setTop (mkF m 15 #[.val (.ref a)] [(.int r3)]))) (st3) ?_
    by_cases hcc4 : r3 < (0 : Int32)
    · refine go_of (B := (T3.setTop (mkF m 23 #[.val (.ref a)] [(.int (1 : Int32))]))) (fun _ kk => XS.ifNo X3.here hx rfl (hb hby d5_15) rfl ((if0 _ _).trans (tlt hcc4).2.1) (XS.iconst X3.here hx rfl (hb hby d5_18) (XS.goto X3.here hx rfl (pc0 := 19) (pc' := 23) rfl (hb hby d5_19) (by decide) (by decide) kk))) ?_
      refine go_end X3 (v := some (.int (nar .boolean (1 : Int32)))) (fun h => by rw [Bd.returns] at h; cases h) Bd.notSynchronized (by decide) (by decide) (Q := (Q_isl_2 Z a c0 c1 gC gF h0 n0)) ?_ (fun fs hr => retN X3 hx (t := .boolean) Bd.returns (by simp) (hb hby d5_23) hr)
      unfold Q_isl_2
      try rw [e3]
      refine ⟨?_, N3, rfl⟩
      have hq42 := hr1.mp hcc2
      have hq63 := hr3.mp hcc4
      simp [own_lit, nar, hq42, hq63]
    · refine go_of (B := (T3.setTop (mkF m 23 #[.val (.ref a)] [(.int (0 : Int32))]))) (fun _ kk => XS.ifYes X3.here hx rfl (pc0 := 15) (pc' := 22) rfl (hb hby d5_15) rfl ((if0 _ _).trans (flt hcc4).2.1) (by decide) (by decide) (XS.iconst X3.here hx rfl (hb hby d5_22) kk)) ?_
      refine go_end X3 (v := some (.int (nar .boolean (0 : Int32)))) (fun h => by rw [Bd.returns] at h; cases h) Bd.notSynchronized (by decide) (by decide) (Q := (Q_isl_2 Z a c0 c1 gC gF h0 n0)) ?_ (fun fs hr => retN X3 hx (t := .boolean) Bd.returns (by simp) (hb hby d5_23) hr)
      unfold Q_isl_2
      try rw [e3]
      refine ⟨?_, N3, rfl⟩
      have hq42 := hr1.mp hcc2
      have hq63 := own_bt (fun q => hcc4 (hr3.mpr q))
      simp [own_lit, nar, hq42, hq63]
  · refine go_of (B := (T1.setTop (mkF m 23 #[.val (.ref a)] [(.int (0 : Int32))]))) (fun _ kk => XS.ifYes X1.here hx rfl (pc0 := 6) (pc' := 22) rfl (hb hby d5_6) rfl ((if0 _ _).trans (flt hcc2).2.1) (by decide) (by decide) (XS.iconst X1.here hx rfl (hb hby d5_22) kk)) ?_
    refine go_end X1 (v := some (.int (nar .boolean (0 : Int32)))) (fun h => by rw [Bd.returns] at h; cases h) Bd.notSynchronized (by decide) (by decide) (Q := (Q_isl_2 Z a c0 c1 gC gF h0 n0)) ?_ (fun fs hr => retN X1 hx (t := .boolean) Bd.returns (by simp) (hb hby d5_23) hr)
    unfold Q_isl_2
    try rw [e1]
    refine ⟨?_, N1, rfl⟩
    have hq42 := own_bt (fun q => hcc2 (hr1.mpr q))
    simp [own_lit, nar, hq42]
def Q_ioc_3 (Z : State) (t : Addr) (wc : Int32) (w0 : Int32) (w1 : Int32) (w2 : Int32) (k : ClassId) (h0 : Heap) (n0 : Nat) (v : Option Value) (h : Heap) (L : List Loc) : Prop := ∃ r : Int32, v = some (.int r) ∧ (r < 0 ↔ own_hs (own_b8 wc) [w0, w1, w2] = false) ∧ Fr n0 L ∧ h = h0
theorem ef_ioc_3 (m : MethodId) (t : Addr) (wc : Int32)  : entryFrame m #[(.ref t), (.int wc), (.int (0 : Int32)), (.int (3 : Int32))] 6 = mkF m 0 #[.val (.ref t), .val (.int wc), .val (.int (0 : Int32)), .val (.int (3 : Int32)), .unset, .unset] [] := by first | (simp [entryFrame, mkF, argsToLocals, Value.category]; done) | rfl
theorem ioc_3 (l : Launch) (Z : State) (a0 : Array Value) (hw : TW a0 Z) (ws : List Cond) (t : Addr) (wc : Int32) (w0 : Int32) (w1 : Int32) (w2 : Int32) (k : ClassId) (h0 : Heap) (n0 : Nat) (Z0 : n0 ≤ h0.size) (V : Arv Z h0 t k .byte 3 [(.int w0), (.int w1), (.int w2)] (.int 0)) :
    own_MF l Z MN14 jdk_43_method_23_code 6 (some .int) ws (own_R 0 0 0 0) #[(.ref t), (.int wc), (.int (0 : Int32)), (.int (3 : Int32))] h0 (Q_ioc_3 Z t wc w0 w1 w2 k h0 n0) := by
  have wd := @own_wd _ _ hw
  refine MetFree.of_bodySF (plainFor_of_name pn_java_lang_StringLatin1) hisR ?_
  intro p e s m args below meth c s₁ Bd hml0 hP hK
  obtain ⟨rfl, hZ, hh⟩ := hP
  have hx := Bd.exec
  have hby := Bd.bytes
  have hml : c.maxLocals = 6 := hml0
  have hown : s.vm.findClass "java/lang/StringLatin1" = some m.cls := findClass_of_methodNamed Bd.named
  have hnm := (name_of_methodNamed Bd.named Bd.method).1
  have X0 : Stand p l e (own_R 0 0 0 0) s m #[(.ref t), (.int wc), (.int (0 : Int32)), (.int (3 : Int32))] below meth c s₁ [] 0 0 := Stand.of_body Bd
  have e0 : s₁.heap = h0 := by rw [← hh, Bd.state]; rfl
  have N0 := Fr.nil n0
  refine go_of (A := s₁.setTop (entryFrame m #[(.ref t), (.int wc), (.int (0 : Int32)), (.int (3 : Int32))] 6)) (B := s₁.setTop (mkF m 0 #[.val (.ref t), .val (.int wc), .val (.int (0 : Int32)), .val (.int (3 : Int32)), .unset, .unset] [])) (fun _ kk' => castTop (ef_ioc_3 m t wc) kk') ?_
  refine go_of (B := (s₁.setTop (mkF m 9 #[.val (.ref t), .val (.int wc), .val (.int (0 : Int32)), .val (.int (3 : Int32)), .val (.int (own_b8 wc)), .val (.int (0 : Int32))] [(.int (0 : Int32))]))) (fun _ kk => XS.iloadN X0.here hx rfl (hb hby d19_0) rfl (XS.i2b X0.here hx rfl (hb hby d19_1) rfl (XS.istore X0.here hx rfl (hb hby d19_2) rfl rfl (XS.iloadN X0.here hx rfl (hb hby d19_4) rfl (XS.istore X0.here hx rfl (hb hby d19_5) rfl rfl (XS.iload X0.here hx rfl (hb hby d19_7) rfl kk)))))) ?_
  refine go_of (B := (s₁.setTop (mkF m 16 #[.val (.ref t), .val (.int wc), .val (.int (0 : Int32)), .val (.int (3 : Int32)), .val (.int (own_b8 wc)), .val (.int (0 : Int32))] [(.int (0 : Int32)), (.ref t)]))) (fun _ kk => XS.iloadN X0.here hx rfl (hb hby d19_9) rfl (XS.icmpNo X0.here hx rfl (hb hby d19_10) rfl (tlt (by decide : (0 : Int32) < (3 : Int32))).2.1 (XS.aloadN X0.here hx rfl (hb hby d19_13) rfl rfl (XS.iload X0.here hx rfl (hb hby d19_14) rfl kk)))) ?_
  obtain ⟨cl1, Ar1, q1, Sz1, Nn1, Hh1, G1⟩ := id (V)
  refine go_of (B := (s₁.setTop (mkF m 19 #[.val (.ref t), .val (.int wc), .val (.int (0 : Int32)), .val (.int (3 : Int32)), .val (.int (own_b8 wc)), .val (.int (0 : Int32))] [(.int (own_b8 wc)), (.int w0)]))) (fun _ kk => X0.baloadBytes hx (j := (0 : Int32)) (v := (.int w0)) (by rw [e0]; exact Ar1.1) (State.isArrayOf_alike hZ.alike Ar1.2.1) Ar1.2.2 (inb_of Sz1 ⟨by decide, by decide⟩) (Hh1.at (inb_of Sz1 ⟨by decide, by decide⟩) rfl) (g := (mkF m 16 #[.val (.ref t), .val (.int wc), .val (.int (0 : Int32)), .val (.int (3 : Int32)), .val (.int (own_b8 wc)), .val (.int (0 : Int32))] [(.int (0 : Int32)), (.ref t)])) rfl rfl (hb hby d19_16) _ (XS.iload X0.here hx rfl (hb hby d19_17) rfl kk)) ?_
  by_cases hcc2 : w0 = (own_b8 wc)
  · refine go_of (B := (s₁.setTop (mkF m 24 #[.val (.ref t), .val (.int wc), .val (.int (0 : Int32)), .val (.int (3 : Int32)), .val (.int (own_b8 wc)), .val (.int (0 : Int32))] [(.int (0 : Int32))]))) (fun _ kk => XS.icmpNo X0.here hx rfl (hb hby d19_19) rfl (teq hcc2).2 (XS.iload X0.here hx rfl (hb hby d19_22) rfl kk)) ?_
    refine go_end X0 (v := some (.int (0 : Int32))) (fun h => by rw [Bd.returns] at h; cases h) Bd.notSynchronized (by decide) (by decide) (Q := (Q_ioc_3 Z t wc w0 w1 w2 k h0 n0)) ?_ (fun fs hr => own_retI X0 hx Bd.returns (hb hby d19_24) hr)
    unfold Q_ioc_3
    try rw [e0]
    exact ⟨_, rfl, iff_of_false (by decide) (by simp [own_hs, hcc2]), N0, rfl⟩
  · refine go_of (B := (s₁.setTop (mkF m 13 #[.val (.ref t), .val (.int wc), .val (.int (0 : Int32)), .val (.int (3 : Int32)), .val (.int (own_b8 wc)), .val (.int (1 : Int32))] []))) (fun _ kk => XS.icmpYes X0.here hx rfl (pc0 := 19) (pc' := 25) rfl (hb hby d19_19) rfl (feq hcc2).2 (by decide) (by decide) (XS.iinc X0.here hx rfl (hb hby d19_25) rfl rfl (XS.goto X0.here hx rfl (pc0 := 28) (pc' := 7) rfl (hb hby d19_28) (by decide) (by decide) (XS.iload X0.here hx rfl (hb hby d19_7) rfl (XS.iloadN X0.here hx rfl (hb hby d19_9) rfl (XS.icmpNo X0.here hx rfl (hb hby d19_10) rfl (tlt (by decide : (1 : Int32) < (3 : Int32))).2.1 kk)))))) ?_
    refine go_of (B := (s₁.setTop (mkF m 16 #[.val (.ref t), .val (.int wc), .val (.int (0 : Int32)), .val (.int (3 : Int32)), .val (.int (own_b8 wc)), .val (.int (1 : Int32))] [(.int (1 : Int32)), (.ref t)]))) (fun _ kk => XS.aloadN X0.here hx rfl (hb hby d19_13) rfl rfl (XS.iload X0.here hx rfl (hb hby d19_14) rfl kk)) ?_
    obtain ⟨cl3, Ar3, q3, Sz3, Nn3, Hh3, G3⟩ := id (V)
    refine go_of (B := (s₁.setTop (mkF m 19 #[.val (.ref t), .val (.int wc), .val (.int (0 : Int32)), .val (.int (3 : Int32)), .val (.int (own_b8 wc)), .val (.int (1 : Int32))] [(.int (own_b8 wc)), (.int w1)]))) (fun _ kk => X0.baloadBytes hx (j := (1 : Int32)) (v := (.int w1)) (by rw [e0]; exact Ar3.1) (State.isArrayOf_alike hZ.alike Ar3.2.1) Ar3.2.2 (inb_of Sz3 ⟨by decide, by decide⟩) (Hh3.at (inb_of Sz3 ⟨by decide, by decide⟩) rfl) (g := (mkF m 16 #[.val (.ref t), .val (.int wc), .val (.int (0 : Int32)), .val (.int (3 : Int32)), .val (.int (own_b8 wc)), .val (.int (1 : Int32))] [(.int (1 : Int32)), (.ref t)])) rfl rfl (hb hby d19_16) _ (XS.iload X0.here hx rfl (hb hby d19_17) rfl kk)) ?_
    by_cases hcc4 : w1 = (own_b8 wc)
    · refine go_of (B := (s₁.setTop (mkF m 24 #[.val (.ref t), .val (.int wc), .val (.int (0 : Int32)), .val (.int (3 : Int32)), .val (.int (own_b8 wc)), .val (.int (1 : Int32))] [(.int (1 : Int32))]))) (fun _ kk => XS.icmpNo X0.here hx rfl (hb hby d19_19) rfl (teq hcc4).2 (XS.iload X0.here hx rfl (hb hby d19_22) rfl kk)) ?_
      refine go_end X0 (v := some (.int (1 : Int32))) (fun h => by rw [Bd.returns] at h; cases h) Bd.notSynchronized (by decide) (by decide) (Q := (Q_ioc_3 Z t wc w0 w1 w2 k h0 n0)) ?_ (fun fs hr => own_retI X0 hx Bd.returns (hb hby d19_24) hr)
      unfold Q_ioc_3
      try rw [e0]
      exact ⟨_, rfl, iff_of_false (by decide) (by simp [own_hs, hcc2, hcc4]), N0, rfl⟩
    · refine go_of (B := (s₁.setTop (mkF m 13 #[.val (.ref t), .val (.int wc), .val (.int (0 : Int32)), .val (.int (3 : Int32)), .val (.int (own_b8 wc)), .val (.int (2 : Int32))] []))) (fun _ kk => XS.icmpYes X0.here hx rfl (pc0 := 19) (pc' := 25) rfl (hb hby d19_19) rfl (feq hcc4).2 (by decide) (by decide) (XS.iinc X0.here hx rfl (hb hby d19_25) rfl rfl (XS.goto X0.here hx rfl (pc0 := 28) (pc' := 7) rfl (hb hby d19_28) (by decide) (by decide) (XS.iload X0.here hx rfl (hb hby d19_7) rfl (XS.iloadN X0.here hx rfl (hb hby d19_9) rfl (XS.icmpNo X0.here hx rfl (hb hby d19_10) rfl (tlt (by decide : (2 : Int32) < (3 : Int32))).2.1 kk)))))) ?_
      refine go_of (B := (s₁.setTop (mkF m 16 #[.val (.ref t), .val (.int wc), .val (.int (0 : Int32)), .val (.int (3 : Int32)), .val (.int (own_b8 wc)), .val (.int (2 : Int32))] [(.int (2 : Int32)), (.ref t)]))) (fun _ kk => XS.aloadN X0.here hx rfl (hb hby d19_13) rfl rfl (XS.iload X0.here hx rfl (hb hby d19_14) rfl kk)) ?_
      obtain ⟨cl5, Ar5, q5, Sz5, Nn5, Hh5, G5⟩ := id (V)
      refine go_of (B := (s₁.setTop (mkF m 19 #[.val (.ref t), .val (.int wc), .val (.int (0 : Int32)), .val (.int (3 : Int32)), .val (.int (own_b8 wc)), .val (.int (2 : Int32))] [(.int (own_b8 wc)), (.int w2)]))) (fun _ kk => X0.baloadBytes hx (j := (2 : Int32)) (v := (.int w2)) (by rw [e0]; exact Ar5.1) (State.isArrayOf_alike hZ.alike Ar5.2.1) Ar5.2.2 (inb_of Sz5 ⟨by decide, by decide⟩) (Hh5.at (inb_of Sz5 ⟨by decide, by decide⟩) rfl) (g := (mkF m 16 #[.val (.ref t), .val (.int wc), .val (.int (0 : Int32)), .val (.int (3 : Int32)), .val (.int (own_b8 wc)), .val (.int (2 : Int32))] [(.int (2 : Int32)), (.ref t)])) rfl rfl (hb hby d19_16) _ (XS.iload X0.here hx rfl (hb hby d19_17) rfl kk)) ?_
      by_cases hcc6 : w2 = (own_b8 wc)
      · refine go_of (B := (s₁.setTop (mkF m 24 #[.val (.ref t), .val (.int wc), .val (.int (0 : Int32)), .val (.int (3 : Int32)), .val (.int (own_b8 wc)), .val (.int (2 : Int32))] [(.int (2 : Int32))]))) (fun _ kk => XS.icmpNo X0.here hx rfl (hb hby d19_19) rfl (teq hcc6).2 (XS.iload X0.here hx rfl (hb hby d19_22) rfl kk)) ?_
        refine go_end X0 (v := some (.int (2 : Int32))) (fun h => by rw [Bd.returns] at h; cases h) Bd.notSynchronized (by decide) (by decide) (Q := (Q_ioc_3 Z t wc w0 w1 w2 k h0 n0)) ?_ (fun fs hr => own_retI X0 hx Bd.returns (hb hby d19_24) hr)
        unfold Q_ioc_3
        try rw [e0]
        exact ⟨_, rfl, iff_of_false (by decide) (by simp [own_hs, hcc2, hcc4, hcc6]), N0, rfl⟩
      · refine go_of (B := (s₁.setTop (mkF m 31 #[.val (.ref t), .val (.int wc), .val (.int (0 : Int32)), .val (.int (3 : Int32)), .val (.int (own_b8 wc)), .val (.int (3 : Int32))] []))) (fun _ kk => XS.icmpYes X0.here hx rfl (pc0 := 19) (pc' := 25) rfl (hb hby d19_19) rfl (feq hcc6).2 (by decide) (by decide) (XS.iinc X0.here hx rfl (hb hby d19_25) rfl rfl (XS.goto X0.here hx rfl (pc0 := 28) (pc' := 7) rfl (hb hby d19_28) (by decide) (by decide) (XS.iload X0.here hx rfl (hb hby d19_7) rfl (XS.iloadN X0.here hx rfl (hb hby d19_9) rfl (XS.icmpYes X0.here hx rfl (pc0 := 10) (pc' := 31) rfl (hb hby d19_10) rfl (flt (by decide : ¬ ((3 : Int32) < (3 : Int32)))).2.1 (by decide) (by decide) kk)))))) ?_
        refine go_of (B := (s₁.setTop (mkF m 32 #[.val (.ref t), .val (.int wc), .val (.int (0 : Int32)), .val (.int (3 : Int32)), .val (.int (own_b8 wc)), .val (.int (3 : Int32))] [(.int (-1 : Int32))]))) (fun _ kk => XS.iconst X0.here hx rfl (hb hby d19_31) kk) ?_
        refine go_end X0 (v := some (.int (-1 : Int32))) (fun h => by rw [Bd.returns] at h; cases h) Bd.notSynchronized (by decide) (by decide) (Q := (Q_ioc_3 Z t wc w0 w1 w2 k h0 n0)) ?_ (fun fs hr => own_retI X0 hx Bd.returns (hb hby d19_32) hr)
        unfold Q_ioc_3
        try rw [e0]
        exact ⟨_, rfl, iff_of_true (by decide) (by simp [own_hs, hcc2, hcc4, hcc6]), N0, rfl⟩
def Q_lio_3 (Z : State) (t : Addr) (wc : Int32) (w0 : Int32) (w1 : Int32) (w2 : Int32) (k : ClassId) (h0 : Heap) (n0 : Nat) (v : Option Value) (h : Heap) (L : List Loc) : Prop := ∃ r : Int32, v = some (.int r) ∧ (r < 0 ↔ own_hs (own_b8 wc) [w0, w1, w2] = false) ∧ Fr n0 L ∧ h = h0
theorem ef_lio_3 (m : MethodId) (t : Addr) (wc : Int32)  : entryFrame m #[(.ref t), (.int wc), (.int (0 : Int32)), (.int (3 : Int32))] 4 = mkF m 0 #[.val (.ref t), .val (.int wc), .val (.int (0 : Int32)), .val (.int (3 : Int32))] [] := by first | (simp [entryFrame, mkF, argsToLocals, Value.category]; done) | rfl
theorem lio_3 (l : Launch) (Z : State) (a0 : Array Value) (hw : TW a0 Z) (ws : List Cond) (t : Addr) (wc : Int32) (w0 : Int32) (w1 : Int32) (w2 : Int32) (k : ClassId) (h0 : Heap) (n0 : Nat) (Z0 : n0 ≤ h0.size) (V : Arv Z h0 t k .byte 3 [(.int w0), (.int w1), (.int w2)] (.int 0)) (hwc : ¬ wc < 0 ∧ ¬ (255 : Int32) < wc) :
    own_MF l Z MN13 jdk_43_method_22_code 4 (some .int) ws (own_R 1 0 0 17) #[(.ref t), (.int wc), (.int (0 : Int32)), (.int (3 : Int32))] h0 (Q_lio_3 Z t wc w0 w1 w2 k h0 n0) := by
  have wd := @own_wd _ _ hw
  refine MetFree.of_bodySF (plainFor_of_name pn_java_lang_StringLatin1) hisR ?_
  intro p e s m args below meth c s₁ Bd hml0 hP hK
  obtain ⟨rfl, hZ, hh⟩ := hP
  have hx := Bd.exec
  have hby := Bd.bytes
  have hml : c.maxLocals = 4 := hml0
  have hown : s.vm.findClass "java/lang/StringLatin1" = some m.cls := findClass_of_methodNamed Bd.named
  have hnm := (name_of_methodNamed Bd.named Bd.method).1
  have X0 : Stand p l e (own_R 1 0 0 17) s m #[(.ref t), (.int wc), (.int (0 : Int32)), (.int (3 : Int32))] below meth c s₁ [] 0 0 := Stand.of_body Bd
  have e0 : s₁.heap = h0 := by rw [← hh, Bd.state]; rfl
  have N0 := Fr.nil n0
  refine go_of (A := s₁.setTop (entryFrame m #[(.ref t), (.int wc), (.int (0 : Int32)), (.int (3 : Int32))] 4)) (B := s₁.setTop (mkF m 0 #[.val (.ref t), .val (.int wc), .val (.int (0 : Int32)), .val (.int (3 : Int32))] [])) (fun _ kk' => castTop (ef_lio_3 m t wc) kk') ?_
  refine go_of (B := (s₁.setTop (mkF m 1 #[.val (.ref t), .val (.int wc), .val (.int (0 : Int32)), .val (.int (3 : Int32))] [(.int wc)]))) (fun _ kk => XS.iloadN X0.here hx rfl (hb hby d11_0) rfl kk) ?_
  obtain ⟨_, _, ⟨T1, L1, k1, n1⟩, -, X1, ⟨Lc1, hQ1, l1, y1, z1⟩, st1⟩ := Jvm.LawKit.callS X0 hx (y := MN12) hown (mvT hZ (wd 62 rfl)) (mvT hZ (wd 63 rfl)) (mvT hZ (wd 60 rfl)) (mvT hZ (wd 64 rfl)) (by decide) (backOf (W := 0) (cani l Z a0 hw [] wc h0 n0 (by omega) hwc) hZ (wd 64 rfl) (wd 60 rfl) (by decide) (by decide)) (g := (mkF m 1 #[.val (.ref t), .val (.int wc), .val (.int (0 : Int32)), .val (.int (3 : Int32))] [(.int wc)])) rfl (by rw [hml]; rfl) (argsL := [(.int wc)]) (rest := []) (lenOf pd__I_Z rfl) rfl (Nat.le_of_eq rfl) (hb hby d11_1) (fun _ _ => ⟨rfl, e0, (by decide : 0 + 0 ≤ _), (by decide : 0 + 0 ≤ _)⟩)
  dsimp only [Pt.U, Pt.locs, Pt.cells, Pt.slots] at X1 l1 y1 z1 st1 hQ1
  subst l1 y1 z1
  obtain ⟨rfl, N1q, e1⟩ := hQ1
  have N1 := Fr.app N0 N1q
  refine go_of (B := (T1.setTop (mkF m 4 #[.val (.ref t), .val (.int wc), .val (.int (0 : Int32)), .val (.int (3 : Int32))] [(.int (1 : Int32))]))) (st1) ?_
  refine go_of (B := (T1.setTop (mkF m 11 #[.val (.ref t), .val (.int wc), .val (.int (0 : Int32)), .val (.int (3 : Int32))] [(.int (0 : Int32)), (.int (0 : Int32))]))) (fun _ kk => XS.ifYes X1.here hx rfl (pc0 := 4) (pc' := 9) rfl (hb hby d11_4) rfl ((if0 _ _).trans (feq (by decide : ¬ ((1 : Int32) = (0 : Int32)))).2) (by decide) (by decide) (XS.iloadN X1.here hx rfl (hb hby d11_9) rfl (XS.iconst X1.here hx rfl (hb hby d11_10) kk))) ?_
  obtain ⟨_, _, ⟨T2, L2, k2, n2⟩, -, X2, ⟨Lc2, hQ2, l2, y2, z2⟩, st2⟩ := Jvm.LawKit.callS X1 hx (y := MN3) hown (mvT hZ (wd 65 rfl)) (mvT hZ (wd 66 rfl)) (mvT hZ (wd 67 rfl)) (mvT hZ (wd 68 rfl)) (by decide) (backOf (W := 0) (v_max l Z a0 hw [] (0 : Int32) (0 : Int32) (0 : Int32) h0 n0 (by omega) (by decide)) hZ (wd 68 rfl) (wd 67 rfl) (by decide) (by decide)) (g := (mkF m 11 #[.val (.ref t), .val (.int wc), .val (.int (0 : Int32)), .val (.int (3 : Int32))] [(.int (0 : Int32)), (.int (0 : Int32))])) rfl (by rw [hml]; rfl) (argsL := [(.int (0 : Int32)), (.int (0 : Int32))]) (rest := []) (lenOf pd__II_I rfl) rfl (Nat.le_of_eq rfl) (hb hby d11_11) (fun _ _ => ⟨rfl, e1, (by decide : 0 + 0 ≤ _), (by decide : 0 + 0 ≤ _)⟩)
  dsimp only [Pt.U, Pt.locs, Pt.cells, Pt.slots] at X2 l2 y2 z2 st2 hQ2
  subst l2 y2 z2
  obtain ⟨rfl, N2q, e2⟩ := hQ2
  have N2 := Fr.app N1 N2q
  refine go_of (B := (T2.setTop (mkF m 14 #[.val (.ref t), .val (.int wc), .val (.int (0 : Int32)), .val (.int (3 : Int32))] [(.int (0 : Int32))]))) (st2) ?_
  refine go_of (B := (T2.setTop (mkF m 17 #[.val (.ref t), .val (.int wc), .val (.int (0 : Int32)), .val (.int (3 : Int32))] [(.ref t), (.int (3 : Int32))]))) (fun _ kk => XS.istoreN X2.here hx rfl (hb hby d11_14) rfl rfl (XS.iloadN X2.here hx rfl (hb hby d11_15) rfl (XS.aloadN X2.here hx rfl (hb hby d11_16) rfl rfl kk))) ?_
  obtain ⟨cl3, Ar3, q3, Sz3, Nn3, Hh3, G3⟩ := id (V)
  have ln3 := len_of Sz3 Nn3
  refine go_of (B := (T2.setTop (mkF m 18 #[.val (.ref t), .val (.int wc), .val (.int (0 : Int32)), .val (.int (3 : Int32))] [(.int (3 : Int32)), (.int (3 : Int32))]))) (fun _ kk => X2.arraylength hx (by rw [e2]; exact Ar3.1) (State.isArrayOf_alike hZ.alike Ar3.2.1) (g := (mkF m 17 #[.val (.ref t), .val (.int wc), .val (.int (0 : Int32)), .val (.int (3 : Int32))] [(.ref t), (.int (3 : Int32))])) rfl rfl (hb hby d11_17) _ (by rw [ln3]; exact kk)) ?_
  obtain ⟨_, _, ⟨T4, L4, k4, n4⟩, -, X4, ⟨Lc4, hQ4, l4, y4, z4⟩, st4⟩ := Jvm.LawKit.callS X2 hx (y := MN4) hown (mvT hZ (wd 69 rfl)) (mvT hZ (wd 70 rfl)) (mvT hZ (wd 67 rfl)) (mvT hZ (wd 71 rfl)) (by decide) (backOf (W := 0) (v_min l Z a0 hw [] (3 : Int32) (3 : Int32) (3 : Int32) h0 n0 (by omega) (by decide)) hZ (wd 71 rfl) (wd 67 rfl) (by decide) (by decide)) (g := (mkF m 18 #[.val (.ref t), .val (.int wc), .val (.int (0 : Int32)), .val (.int (3 : Int32))] [(.int (3 : Int32)), (.int (3 : Int32))])) rfl (by rw [hml]; rfl) (argsL := [(.int (3 : Int32)), (.int (3 : Int32))]) (rest := []) (lenOf pd__II_I rfl) rfl (Nat.le_of_eq rfl) (hb hby d11_18) (fun _ _ => ⟨rfl, e2, (by decide : 0 + 0 ≤ _), (by decide : 0 + 0 ≤ _)⟩)
  dsimp only [Pt.U, Pt.locs, Pt.cells, Pt.slots] at X4 l4 y4 z4 st4 hQ4
  subst l4 y4 z4
  obtain ⟨rfl, N4q, e4⟩ := hQ4
  have N4 := Fr.app N2 N4q
  refine go_of (B := (T4.setTop (mkF m 21 #[.val (.ref t), .val (.int wc), .val (.int (0 : Int32)), .val (.int (3 : Int32))] [(.int (3 : Int32))]))) (st4) ?_
  refine go_of (B := (T4.setTop (mkF m 31 #[.val (.ref t), .val (.int wc), .val (.int (0 : Int32)), .val (.int (3 : Int32))] [(.int wc), (.ref t)]))) (fun _ kk => XS.istoreN X4.here hx rfl (hb hby d11_21) rfl rfl (XS.iloadN X4.here hx rfl (hb hby d11_22) rfl (XS.iloadN X4.here hx rfl (hb hby d11_23) rfl (XS.icmpYes X4.here hx rfl (pc0 := 24) (pc' := 29) rfl (hb hby d11_24) rfl (tlt (by decide : (0 : Int32) < (3 : Int32))).1 (by decide) (by decide) (XS.aloadN X4.here hx rfl (hb hby d11_29) rfl rfl (XS.iloadN X4.here hx rfl (hb hby d11_30) rfl kk)))))) ?_
  refine go_of (B := (T4.setTop (mkF m 33 #[.val (.ref t), .val (.int wc), .val (.int (0 : Int32)), .val (.int (3 : Int32))] [(.int (3 : Int32)), (.int (0 : Int32)), (.int wc), (.ref t)]))) (fun _ kk => XS.iloadN X4.here hx rfl (hb hby d11_31) rfl (XS.iloadN X4.here hx rfl (hb hby d11_32) rfl kk)) ?_
  obtain ⟨_, _, ⟨T5, L5, k5, n5⟩, -, X5, ⟨Lc5, hQ5, l5, y5, z5⟩, st5⟩ := Jvm.LawKit.callS X4 hx (y := MN14) hown (mvT hZ (wd 85 rfl)) (mvT hZ (wd 86 rfl)) (mvT hZ (wd 60 rfl)) (mvT hZ (wd 87 rfl)) (by decide) (backOf (W := 0) (ioc_3 l Z a0 hw [] t wc w0 w1 w2 k h0 n0 (by omega) V) hZ (wd 87 rfl) (wd 60 rfl) (by decide) (by decide)) (g := (mkF m 33 #[.val (.ref t), .val (.int wc), .val (.int (0 : Int32)), .val (.int (3 : Int32))] [(.int (3 : Int32)), (.int (0 : Int32)), (.int wc), (.ref t)])) rfl (by rw [hml]; rfl) (argsL := [(.ref t), (.int wc), (.int (0 : Int32)), (.int (3 : Int32))]) (rest := []) (lenOf pd___BIII_I rfl) rfl (Nat.le_of_eq rfl) (hb hby d11_33) (fun _ _ => ⟨rfl, e4, (by decide : 0 + 0 ≤ _), (by decide : 0 + 0 ≤ _)⟩)
  dsimp only [Pt.U, Pt.locs, Pt.cells, Pt.slots] at X5 l5 y5 z5 st5 hQ5
  subst l5 y5 z5
  obtain ⟨r5, rfl, hr5, N5q, e5⟩ := hQ5
  have N5 := Fr.app N4 N5q
  refine go_of (B := (T5.setTop (mkF m 36 #[.val (.ref t), .val (.int wc), .val (.int (0 : Int32)), .val (.int (3 : Int32))] [(.int r5)]))) (st5) ?_
  refine go_end X5 (v := some (.int r5)) (fun h => by rw [Bd.returns] at h; cases h) Bd.notSynchronized (by decide) (by decide) (Q := (Q_lio_3 Z t wc w0 w1 w2 k h0 n0)) ?_ (fun fs hr => own_retI X5 hx Bd.returns (hb hby d11_36) hr)
  unfold Q_lio_3
  try rw [e5]
  exact ⟨_, rfl, hr5, N5, rfl⟩
def Q_ucu_3 (Z : State) (t : Addr) (wc : Int32) (c0 : Int32) (c1 : Int32) (c2 : Int32) (k : ClassId) (h0 : Heap) (n0 : Nat) (v : Option Value) (h : Heap) (L : List Loc) : Prop := ∃ r : Int32, v = some (.int r) ∧ (r < 0 ↔ own_hs wc [c0, c1, c2] = false) ∧ Fr n0 L ∧ h = h0
theorem ef_ucu_3 (m : MethodId) (t : Addr) (wc : Int32)  : entryFrame m #[(.ref t), (.int wc), (.int (0 : Int32)), (.int (3 : Int32))] 5 = mkF m 0 #[.val (.ref t), .val (.int wc), .val (.int (0 : Int32)), .val (.int (3 : Int32)), .unset] [] := by first | (simp [entryFrame, mkF, argsToLocals, Value.category]; done) | rfl
theorem ucu_3 (l : Launch) (Z : State) (a0 : Array Value) (hw : TW a0 Z) (ws : List Cond) (t : Addr) (wc : Int32) (c0 : Int32) (c1 : Int32) (c2 : Int32) (k : ClassId) (h0 : Heap) (n0 : Nat) (Z0 : n0 ≤ h0.size) (O : Old Z n0 h0) (SU : US Z) (V : Arv Z h0 t k .byte 6 [(.int (own_b0 c0)), (.int (own_b1 c0)), (.int (own_b0 c1)), (.int (own_b1 c1)), (.int (own_b0 c2)), (.int (own_b1 c2))] (.int 0)) (hc0 : ¬ c0 < 0 ∧ ¬ (65535 : Int32) < c0) (hc1 : ¬ c1 < 0 ∧ ¬ (65535 : Int32) < c1) (hc2 : ¬ c2 < 0 ∧ ¬ (65535 : Int32) < c2) :
    own_MF l Z MN22 jdk_52_method_48_code 5 (some .int) ws (own_R 1 0 0 13) #[(.ref t), (.int wc), (.int (0 : Int32)), (.int (3 : Int32))] h0 (Q_ucu_3 Z t wc c0 c1 c2 k h0 n0) := by
  have wd := @own_wd _ _ hw
  refine MetFree.of_bodySF (plainFor_of_name pn_java_lang_StringUTF16) hisR ?_
  intro p e s m args below meth c s₁ Bd hml0 hP hK
  obtain ⟨rfl, hZ, hh⟩ := hP
  have hx := Bd.exec
  have hby := Bd.bytes
  have hml : c.maxLocals = 5 := hml0
  have hown : s.vm.findClass "java/lang/StringUTF16" = some m.cls := findClass_of_methodNamed Bd.named
  have hnm := (name_of_methodNamed Bd.named Bd.method).1
  have X0 : Stand p l e (own_R 1 0 0 13) s m #[(.ref t), (.int wc), (.int (0 : Int32)), (.int (3 : Int32))] below meth c s₁ [] 0 0 := Stand.of_body Bd
  have e0 : s₁.heap = h0 := by rw [← hh, Bd.state]; rfl
  have N0 := Fr.nil n0
  refine go_of (A := s₁.setTop (entryFrame m #[(.ref t), (.int wc), (.int (0 : Int32)), (.int (3 : Int32))] 5)) (B := s₁.setTop (mkF m 0 #[.val (.ref t), .val (.int wc), .val (.int (0 : Int32)), .val (.int (3 : Int32)), .unset] [])) (fun _ kk' => castTop (ef_ucu_3 m t wc) kk') ?_
  refine go_of (B := (s₁.setTop (mkF m 10 #[.val (.ref t), .val (.int wc), .val (.int (0 : Int32)), .val (.int (3 : Int32)), .val (.int (0 : Int32))] [(.ref t)]))) (fun _ kk => XS.iloadN X0.here hx rfl (hb hby d31_0) rfl (XS.istore X0.here hx rfl (hb hby d31_1) rfl rfl (XS.iload X0.here hx rfl (hb hby d31_3) rfl (XS.iloadN X0.here hx rfl (hb hby d31_5) rfl (XS.icmpNo X0.here hx rfl (hb hby d31_6) rfl (tlt (by decide : (0 : Int32) < (3 : Int32))).2.1 (XS.aloadN X0.here hx rfl (hb hby d31_9) rfl rfl kk)))))) ?_
  refine go_of (B := (s₁.setTop (mkF m 12 #[.val (.ref t), .val (.int wc), .val (.int (0 : Int32)), .val (.int (3 : Int32)), .val (.int (0 : Int32))] [(.int (0 : Int32)), (.ref t)]))) (fun _ kk => XS.iload X0.here hx rfl (hb hby d31_10) rfl kk) ?_
  obtain ⟨_, _, ⟨T1, L1, k1, n1⟩, -, X1, ⟨Lc1, hQ1, l1, y1, z1⟩, st1⟩ := Jvm.LawKit.callS X0 hx (y := MN19) hown (mvT hZ (wd 104 rfl)) (mvT hZ (wd 105 rfl)) (mvT hZ (wd 77 rfl)) (mvT hZ (wd 106 rfl)) (by decide) (backOf (W := 0) (u_get l Z a0 hw [] t (0 : Int32) (6 : Int32) _ c0 k h0 n0 (by omega) O SU V (by decide) (by decide) rfl rfl hc0) hZ (wd 106 rfl) (wd 77 rfl) (by decide) (by decide)) (g := (mkF m 12 #[.val (.ref t), .val (.int wc), .val (.int (0 : Int32)), .val (.int (3 : Int32)), .val (.int (0 : Int32))] [(.int (0 : Int32)), (.ref t)])) rfl (by rw [hml]; rfl) (argsL := [(.ref t), (.int (0 : Int32))]) (rest := []) (lenOf pd___BI_C rfl) rfl (Nat.le_of_eq rfl) (hb hby d31_12) (fun _ _ => ⟨rfl, e0, (by decide : 0 + 0 ≤ _), (by decide : 0 + 0 ≤ _)⟩)
  dsimp only [Pt.U, Pt.locs, Pt.cells, Pt.slots] at X1 l1 y1 z1 st1 hQ1
  subst l1 y1 z1
  obtain ⟨rfl, N1q, e1⟩ := hQ1
  have N1 := Fr.app N0 N1q
  refine go_of (B := (T1.setTop (mkF m 15 #[.val (.ref t), .val (.int wc), .val (.int (0 : Int32)), .val (.int (3 : Int32)), .val (.int (0 : Int32))] [(.int c0)]))) (st1) ?_
  refine go_of (B := (T1.setTop (mkF m 16 #[.val (.ref t), .val (.int wc), .val (.int (0 : Int32)), .val (.int (3 : Int32)), .val (.int (0 : Int32))] [(.int wc), (.int c0)]))) (fun _ kk => XS.iloadN X1.here hx rfl (hb hby d31_15) rfl kk) ?_
  by_cases hcc2 : c0 = wc
  · refine go_of (B := (T1.setTop (mkF m 21 #[.val (.ref t), .val (.int wc), .val (.int (0 : Int32)), .val (.int (3 : Int32)), .val (.int (0 : Int32))] [(.int (0 : Int32))]))) (fun _ kk => XS.icmpNo X1.here hx rfl (hb hby d31_16) rfl (teq hcc2).2 (XS.iload X1.here hx rfl (hb hby d31_19) rfl kk)) ?_
    refine go_end X1 (v := some (.int (0 : Int32))) (fun h => by rw [Bd.returns] at h; cases h) Bd.notSynchronized (by decide) (by decide) (Q := (Q_ucu_3 Z t wc c0 c1 c2 k h0 n0)) ?_ (fun fs hr => own_retI X1 hx Bd.returns (hb hby d31_21) hr)
    unfold Q_ucu_3
    try rw [e1]
    exact ⟨_, rfl, iff_of_false (by decide) (by simp [own_hs, hcc2]), N1, rfl⟩
  · refine go_of (B := (T1.setTop (mkF m 9 #[.val (.ref t), .val (.int wc), .val (.int (0 : Int32)), .val (.int (3 : Int32)), .val (.int (1 : Int32))] []))) (fun _ kk => XS.icmpYes X1.here hx rfl (pc0 := 16) (pc' := 22) rfl (hb hby d31_16) rfl (feq hcc2).2 (by decide) (by decide) (XS.iinc X1.here hx rfl (hb hby d31_22) rfl rfl (XS.goto X1.here hx rfl (pc0 := 25) (pc' := 3) rfl (hb hby d31_25) (by decide) (by decide) (XS.iload X1.here hx rfl (hb hby d31_3) rfl (XS.iloadN X1.here hx rfl (hb hby d31_5) rfl (XS.icmpNo X1.here hx rfl (hb hby d31_6) rfl (tlt (by decide : (1 : Int32) < (3 : Int32))).2.1 kk)))))) ?_
    refine go_of (B := (T1.setTop (mkF m 12 #[.val (.ref t), .val (.int wc), .val (.int (0 : Int32)), .val (.int (3 : Int32)), .val (.int (1 : Int32))] [(.int (1 : Int32)), (.ref t)]))) (fun _ kk => XS.aloadN X1.here hx rfl (hb hby d31_9) rfl rfl (XS.iload X1.here hx rfl (hb hby d31_10) rfl kk)) ?_
    obtain ⟨_, _, ⟨T3, L3, k3, n3⟩, -, X3, ⟨Lc3, hQ3, l3, y3, z3⟩, st3⟩ := Jvm.LawKit.callS X1 hx (y := MN19) hown (mvT hZ (wd 104 rfl)) (mvT hZ (wd 105 rfl)) (mvT hZ (wd 77 rfl)) (mvT hZ (wd 106 rfl)) (by decide) (backOf (W := 0) (u_get l Z a0 hw [] t (1 : Int32) (6 : Int32) _ c1 k h0 n0 (by omega) O SU V (by decide) (by decide) rfl rfl hc1) hZ (wd 106 rfl) (wd 77 rfl) (by decide) (by decide)) (g := (mkF m 12 #[.val (.ref t), .val (.int wc), .val (.int (0 : Int32)), .val (.int (3 : Int32)), .val (.int (1 : Int32))] [(.int (1 : Int32)), (.ref t)])) rfl (by rw [hml]; rfl) (argsL := [(.ref t), (.int (1 : Int32))]) (rest := []) (lenOf pd___BI_C rfl) rfl (Nat.le_of_eq rfl) (hb hby d31_12) (fun _ _ => ⟨rfl, e1, (by decide : 0 + 0 ≤ _), (by decide : 0 + 0 ≤ _)⟩)
    dsimp only [Pt.U, Pt.locs, Pt.cells, Pt.slots] at X3 l3 y3 z3 st3 hQ3
    subst l3 y3 z3
    obtain ⟨rfl, N3q, e3⟩ := hQ3
    have N3 := Fr.app N1 N3q
    refine go_of (B := (T3.setTop (mkF m 15 #[.val (.ref t), .val (.int wc), .val (.int (0 : Int32)), .val (.int (3 : Int32)), .val (.int (1 : Int32))] [(.int c1)]))) (st3) ?_
    refine go_of (B := (T3.setTop (mkF m 16 #[.val (.ref t), .val (.int wc), .val (.int (0 : Int32)), .val (.int (3 : Int32)), .val (.int (1 : Int32))] [(.int wc), (.int c1)]))) (fun _ kk => XS.iloadN X3.here hx rfl (hb hby d31_15) rfl kk) ?_
    by_cases hcc4 : c1 = wc
    · refine go_of (B := (T3.setTop (mkF m 21 #[.val (.ref t), .val (.int wc), .val (.int (0 : Int32)), .val (.int (3 : Int32)), .val (.int (1 : Int32))] [(.int (1 : Int32))]))) (fun _ kk => XS.icmpNo X3.here hx rfl (hb hby d31_16) rfl (teq hcc4).2 (XS.iload X3.here hx rfl (hb hby d31_19) rfl kk)) ?_
      refine go_end X3 (v := some (.int (1 : Int32))) (fun h => by rw [Bd.returns] at h; cases h) Bd.notSynchronized (by decide) (by decide) (Q := (Q_ucu_3 Z t wc c0 c1 c2 k h0 n0)) ?_ (fun fs hr => own_retI X3 hx Bd.returns (hb hby d31_21) hr)
      unfold Q_ucu_3
      try rw [e3]
      exact ⟨_, rfl, iff_of_false (by decide) (by simp [own_hs, hcc2, hcc4]), N3, rfl⟩
    · refine go_of (B := (T3.setTop (mkF m 9 #[.val (.ref t), .val (.int wc), .val (.int (0 : Int32)), .val (.int (3 : Int32)), .val (.int (2 : Int32))] []))) (fun _ kk => XS.icmpYes X3.here hx rfl (pc0 := 16) (pc' := 22) rfl (hb hby d31_16) rfl (feq hcc4).2 (by decide) (by decide) (XS.iinc X3.here hx rfl (hb hby d31_22) rfl rfl (XS.goto X3.here hx rfl (pc0 := 25) (pc' := 3) rfl (hb hby d31_25) (by decide) (by decide) (XS.iload X3.here hx rfl (hb hby d31_3) rfl (XS.iloadN X3.here hx rfl (hb hby d31_5) rfl (XS.icmpNo X3.here hx rfl (hb hby d31_6) rfl (tlt (by decide : (2 : Int32) < (3 : Int32))).2.1 kk)))))) ?_
      refine go_of (B := (T3.setTop (mkF m 12 #[.val (.ref t), .val (.int wc), .val (.int (0 : Int32)), .val (.int (3 : Int32)), .val (.int (2 : Int32))] [(.int (2 : Int32)), (.ref t)]))) (fun _ kk => XS.aloadN X3.here hx rfl (hb hby d31_9) rfl rfl (XS.iload X3.here hx rfl (hb hby d31_10) rfl kk)) ?_
      obtain ⟨_, _, ⟨T5, L5, k5, n5⟩, -, X5, ⟨Lc5, hQ5, l5, y5, z5⟩, st5⟩ := Jvm.LawKit.callS X3 hx (y := MN19) hown (mvT hZ (wd 104 rfl)) (mvT hZ (wd 105 rfl)) (mvT hZ (wd 77 rfl)) (mvT hZ (wd 106 rfl)) (by decide) (backOf (W := 0) (u_get l Z a0 hw [] t (2 : Int32) (6 : Int32) _ c2 k h0 n0 (by omega) O SU V (by decide) (by decide) rfl rfl hc2) hZ (wd 106 rfl) (wd 77 rfl) (by decide) (by decide)) (g := (mkF m 12 #[.val (.ref t), .val (.int wc), .val (.int (0 : Int32)), .val (.int (3 : Int32)), .val (.int (2 : Int32))] [(.int (2 : Int32)), (.ref t)])) rfl (by rw [hml]; rfl) (argsL := [(.ref t), (.int (2 : Int32))]) (rest := []) (lenOf pd___BI_C rfl) rfl (Nat.le_of_eq rfl) (hb hby d31_12) (fun _ _ => ⟨rfl, e3, (by decide : 0 + 0 ≤ _), (by decide : 0 + 0 ≤ _)⟩)
      dsimp only [Pt.U, Pt.locs, Pt.cells, Pt.slots] at X5 l5 y5 z5 st5 hQ5
      subst l5 y5 z5
      obtain ⟨rfl, N5q, e5⟩ := hQ5
      have N5 := Fr.app N3 N5q
      refine go_of (B := (T5.setTop (mkF m 15 #[.val (.ref t), .val (.int wc), .val (.int (0 : Int32)), .val (.int (3 : Int32)), .val (.int (2 : Int32))] [(.int c2)]))) (st5) ?_
      refine go_of (B := (T5.setTop (mkF m 16 #[.val (.ref t), .val (.int wc), .val (.int (0 : Int32)), .val (.int (3 : Int32)), .val (.int (2 : Int32))] [(.int wc), (.int c2)]))) (fun _ kk => XS.iloadN X5.here hx rfl (hb hby d31_15) rfl kk) ?_
      by_cases hcc6 : c2 = wc
      · refine go_of (B := (T5.setTop (mkF m 21 #[.val (.ref t), .val (.int wc), .val (.int (0 : Int32)), .val (.int (3 : Int32)), .val (.int (2 : Int32))] [(.int (2 : Int32))]))) (fun _ kk => XS.icmpNo X5.here hx rfl (hb hby d31_16) rfl (teq hcc6).2 (XS.iload X5.here hx rfl (hb hby d31_19) rfl kk)) ?_
        refine go_end X5 (v := some (.int (2 : Int32))) (fun h => by rw [Bd.returns] at h; cases h) Bd.notSynchronized (by decide) (by decide) (Q := (Q_ucu_3 Z t wc c0 c1 c2 k h0 n0)) ?_ (fun fs hr => own_retI X5 hx Bd.returns (hb hby d31_21) hr)
        unfold Q_ucu_3
        try rw [e5]
        exact ⟨_, rfl, iff_of_false (by decide) (by simp [own_hs, hcc2, hcc4, hcc6]), N5, rfl⟩
      · refine go_of (B := (T5.setTop (mkF m 28 #[.val (.ref t), .val (.int wc), .val (.int (0 : Int32)), .val (.int (3 : Int32)), .val (.int (3 : Int32))] []))) (fun _ kk => XS.icmpYes X5.here hx rfl (pc0 := 16) (pc' := 22) rfl (hb hby d31_16) rfl (feq hcc6).2 (by decide) (by decide) (XS.iinc X5.here hx rfl (hb hby d31_22) rfl rfl (XS.goto X5.here hx rfl (pc0 := 25) (pc' := 3) rfl (hb hby d31_25) (by decide) (by decide) (XS.iload X5.here hx rfl (hb hby d31_3) rfl (XS.iloadN X5.here hx rfl (hb hby d31_5) rfl (XS.icmpYes X5.here hx rfl (pc0 := 6) (pc' := 28) rfl (hb hby d31_6) rfl (flt (by decide : ¬ ((3 : Int32) < (3 : Int32)))).2.1 (by decide) (by decide) kk)))))) ?_
        refine go_of (B := (T5.setTop (mkF m 29 #[.val (.ref t), .val (.int wc), .val (.int (0 : Int32)), .val (.int (3 : Int32)), .val (.int (3 : Int32))] [(.int (-1 : Int32))]))) (fun _ kk => XS.iconst X5.here hx rfl (hb hby d31_28) kk) ?_
        refine go_end X5 (v := some (.int (-1 : Int32))) (fun h => by rw [Bd.returns] at h; cases h) Bd.notSynchronized (by decide) (by decide) (Q := (Q_ucu_3 Z t wc c0 c1 c2 k h0 n0)) ?_ (fun fs hr => own_retI X5 hx Bd.returns (hb hby d31_29) hr)
        unfold Q_ucu_3
        try rw [e5]
        exact ⟨_, rfl, iff_of_true (by decide) (by simp [own_hs, hcc2, hcc4, hcc6]), N5, rfl⟩
def Q_uic_3 (Z : State) (t : Addr) (wc : Int32) (c0 : Int32) (c1 : Int32) (c2 : Int32) (k : ClassId) (gF : Value) (h0 : Heap) (n0 : Nat) (v : Option Value) (h : Heap) (L : List Loc) : Prop := ∃ r : Int32, v = some (.int r) ∧ (r < 0 ↔ own_hs wc [c0, c1, c2] = false) ∧ Fr n0 L ∧ h = h0
theorem ef_uic_3 (m : MethodId) (t : Addr) (wc : Int32)  : entryFrame m #[(.ref t), (.int wc), (.int (0 : Int32)), (.int (3 : Int32))] 4 = mkF m 0 #[.val (.ref t), .val (.int wc), .val (.int (0 : Int32)), .val (.int (3 : Int32))] [] := by first | (simp [entryFrame, mkF, argsToLocals, Value.category]; done) | rfl
theorem uic_3 (l : Launch) (Z : State) (a0 : Array Value) (hw : TW a0 Z) (ws : List Cond) (t : Addr) (wc : Int32) (c0 : Int32) (c1 : Int32) (c2 : Int32) (k : ClassId) (gF : Value) (h0 : Heap) (n0 : Nat) (Z0 : n0 ≤ h0.size) (O : Old Z n0 h0) (SU : US Z) (V : Arv Z h0 t k .byte 6 [(.int (own_b0 c0)), (.int (own_b1 c0)), (.int (own_b0 c1)), (.int (own_b1 c1)), (.int (own_b0 c2)), (.int (own_b1 c2))] (.int 0)) (hc0 : ¬ c0 < 0 ∧ ¬ (65535 : Int32) < c0) (hc1 : ¬ c1 < 0 ∧ ¬ (65535 : Int32) < c1) (hc2 : ¬ c2 < 0 ∧ ¬ (65535 : Int32) < c2) (SF : Sta Z Z.heap "jdk/internal/util/Preconditions" "SIOOBE_FORMATTER" "Ljava/util/function/BiFunction;" gF) (rgF : gF.isRef = true) :
    own_MF l Z MN21 jdk_52_method_47_code 4 (some .int) ws (own_R 3 0 0 43) #[(.ref t), (.int wc), (.int (0 : Int32)), (.int (3 : Int32))] h0 (Q_uic_3 Z t wc c0 c1 c2 k gF h0 n0) := by
  have wd := @own_wd _ _ hw
  refine MetFree.of_bodySF (plainFor_of_name pn_java_lang_StringUTF16) hisR ?_
  intro p e s m args below meth c s₁ Bd hml0 hP hK
  obtain ⟨rfl, hZ, hh⟩ := hP
  have hx := Bd.exec
  have hby := Bd.bytes
  have hml : c.maxLocals = 4 := hml0
  have hown : s.vm.findClass "java/lang/StringUTF16" = some m.cls := findClass_of_methodNamed Bd.named
  have hnm := (name_of_methodNamed Bd.named Bd.method).1
  have X0 : Stand p l e (own_R 3 0 0 43) s m #[(.ref t), (.int wc), (.int (0 : Int32)), (.int (3 : Int32))] below meth c s₁ [] 0 0 := Stand.of_body Bd
  have e0 : s₁.heap = h0 := by rw [← hh, Bd.state]; rfl
  have N0 := Fr.nil n0
  refine go_of (A := s₁.setTop (entryFrame m #[(.ref t), (.int wc), (.int (0 : Int32)), (.int (3 : Int32))] 4)) (B := s₁.setTop (mkF m 0 #[.val (.ref t), .val (.int wc), .val (.int (0 : Int32)), .val (.int (3 : Int32))] [])) (fun _ kk' => castTop (ef_uic_3 m t wc) kk') ?_
  refine go_of (B := (s₁.setTop (mkF m 3 #[.val (.ref t), .val (.int wc), .val (.int (0 : Int32)), .val (.int (3 : Int32))] [(.ref t), (.int (3 : Int32)), (.int (0 : Int32))]))) (fun _ kk => XS.iloadN X0.here hx rfl (hb hby d26_0) rfl (XS.iloadN X0.here hx rfl (hb hby d26_1) rfl (XS.aloadN X0.here hx rfl (hb hby d26_2) rfl rfl kk))) ?_
  obtain ⟨_, _, ⟨T1, L1, k1, n1⟩, -, X1, ⟨Lc1, hQ1, l1, y1, z1⟩, st1⟩ := Jvm.LawKit.callS X0 hx (y := MN15) hown (mvT hZ (wd 116 rfl)) (mvT hZ (wd 117 rfl)) (mvT hZ (wd 77 rfl)) (mvT hZ (wd 118 rfl)) (by decide) (backOf (W := 0) (ucbb l Z a0 hw [] (3 : Int32) t (6 : Int32) k _ gF h0 n0 (by omega) O SF rgF V (by decide) (by decide)) hZ (wd 118 rfl) (wd 77 rfl) (by decide) (by decide)) (g := (mkF m 3 #[.val (.ref t), .val (.int wc), .val (.int (0 : Int32)), .val (.int (3 : Int32))] [(.ref t), (.int (3 : Int32)), (.int (0 : Int32))])) rfl (by rw [hml]; rfl) (argsL := [(.int (0 : Int32)), (.int (3 : Int32)), (.ref t)]) (rest := []) (lenOf pd__II_B_V rfl) rfl (Nat.le_of_eq rfl) (hb hby d26_3) (fun _ _ => ⟨rfl, e0, (by decide : 0 + 0 ≤ _), (by decide : 0 + 0 ≤ _)⟩)
  dsimp only [Pt.U, Pt.locs, Pt.cells, Pt.slots] at X1 l1 y1 z1 st1 hQ1
  subst l1 y1 z1
  obtain ⟨rfl, N1q, e1⟩ := hQ1
  have N1 := Fr.app N0 N1q
  refine go_of (B := (T1.setTop (mkF m 6 #[.val (.ref t), .val (.int wc), .val (.int (0 : Int32)), .val (.int (3 : Int32))] []))) (st1) ?_
  refine go_of (B := (T1.setTop (mkF m 10 #[.val (.ref t), .val (.int wc), .val (.int (0 : Int32)), .val (.int (3 : Int32))] [(.int (3 : Int32)), (.int (0 : Int32)), (.int wc), (.ref t)]))) (fun _ kk => XS.aloadN X1.here hx rfl (hb hby d26_6) rfl rfl (XS.iloadN X1.here hx rfl (hb hby d26_7) rfl (XS.iloadN X1.here hx rfl (hb hby d26_8) rfl (XS.iloadN X1.here hx rfl (hb hby d26_9) rfl kk)))) ?_
  obtain ⟨_, _, ⟨T2, L2, k2, n2⟩, -, X2, ⟨Lc2, hQ2, l2, y2, z2⟩, st2⟩ := Jvm.LawKit.callS X1 hx (y := MN22) hown (mvT hZ (wd 130 rfl)) (mvT hZ (wd 131 rfl)) (mvT hZ (wd 77 rfl)) (mvT hZ (wd 132 rfl)) (by decide) (backOf (W := 0) (ucu_3 l Z a0 hw [] t wc c0 c1 c2 k h0 n0 (by omega) O SU V hc0 hc1 hc2) hZ (wd 132 rfl) (wd 77 rfl) (by decide) (by decide)) (g := (mkF m 10 #[.val (.ref t), .val (.int wc), .val (.int (0 : Int32)), .val (.int (3 : Int32))] [(.int (3 : Int32)), (.int (0 : Int32)), (.int wc), (.ref t)])) rfl (by rw [hml]; rfl) (argsL := [(.ref t), (.int wc), (.int (0 : Int32)), (.int (3 : Int32))]) (rest := []) (lenOf pd___BIII_I rfl) rfl (Nat.le_of_eq rfl) (hb hby d26_10) (fun _ _ => ⟨rfl, e1, (by decide : 0 + 0 ≤ _), (by decide : 0 + 0 ≤ _)⟩)
  dsimp only [Pt.U, Pt.locs, Pt.cells, Pt.slots] at X2 l2 y2 z2 st2 hQ2
  subst l2 y2 z2
  obtain ⟨r2, rfl, hr2, N2q, e2⟩ := hQ2
  have N2 := Fr.app N1 N2q
  refine go_of (B := (T2.setTop (mkF m 13 #[.val (.ref t), .val (.int wc), .val (.int (0 : Int32)), .val (.int (3 : Int32))] [(.int r2)]))) (st2) ?_
  refine go_end X2 (v := some (.int r2)) (fun h => by rw [Bd.returns] at h; cases h) Bd.notSynchronized (by decide) (by decide) (Q := (Q_uic_3 Z t wc c0 c1 c2 k gF h0 n0)) ?_ (fun fs hr => own_retI X2 hx Bd.returns (hb hby d26_13) hr)
  unfold Q_uic_3
  try rw [e2]
  exact ⟨_, rfl, hr2, N2, rfl⟩
def Q_uio_3 (Z : State) (t : Addr) (wc : Int32) (c0 : Int32) (c1 : Int32) (c2 : Int32) (k : ClassId) (gF : Value) (h0 : Heap) (n0 : Nat) (v : Option Value) (h : Heap) (L : List Loc) : Prop := ∃ r : Int32, v = some (.int r) ∧ (r < 0 ↔ own_hs wc [c0, c1, c2] = false) ∧ Fr n0 L ∧ h = h0
theorem ef_uio_3 (m : MethodId) (t : Addr) (wc : Int32)  : entryFrame m #[(.ref t), (.int wc), (.int (0 : Int32)), (.int (3 : Int32))] 4 = mkF m 0 #[.val (.ref t), .val (.int wc), .val (.int (0 : Int32)), .val (.int (3 : Int32))] [] := by first | (simp [entryFrame, mkF, argsToLocals, Value.category]; done) | rfl
theorem uio_3 (l : Launch) (Z : State) (a0 : Array Value) (hw : TW a0 Z) (ws : List Cond) (t : Addr) (wc : Int32) (c0 : Int32) (c1 : Int32) (c2 : Int32) (k : ClassId) (gF : Value) (h0 : Heap) (n0 : Nat) (Z0 : n0 ≤ h0.size) (O : Old Z n0 h0) (SU : US Z) (V : Arv Z h0 t k .byte 6 [(.int (own_b0 c0)), (.int (own_b1 c0)), (.int (own_b0 c1)), (.int (own_b1 c1)), (.int (own_b0 c2)), (.int (own_b1 c2))] (.int 0)) (hc0 : ¬ c0 < 0 ∧ ¬ (65535 : Int32) < c0) (hc1 : ¬ c1 < 0 ∧ ¬ (65535 : Int32) < c1) (hc2 : ¬ c2 < 0 ∧ ¬ (65535 : Int32) < c2) (SF : Sta Z Z.heap "jdk/internal/util/Preconditions" "SIOOBE_FORMATTER" "Ljava/util/function/BiFunction;" gF) (rgF : gF.isRef = true) (hwc : ¬ wc < 0 ∧ ¬ (255 : Int32) < wc) :
    own_MF l Z MN20 jdk_52_method_40_code 4 (some .int) ws (own_R 4 0 0 58) #[(.ref t), (.int wc), (.int (0 : Int32)), (.int (3 : Int32))] h0 (Q_uio_3 Z t wc c0 c1 c2 k gF h0 n0) := by
  have wd := @own_wd _ _ hw
  refine MetFree.of_bodySF (plainFor_of_name pn_java_lang_StringUTF16) hisR ?_
  intro p e s m args below meth c s₁ Bd hml0 hP hK
  obtain ⟨rfl, hZ, hh⟩ := hP
  have hx := Bd.exec
  have hby := Bd.bytes
  have hml : c.maxLocals = 4 := hml0
  have hown : s.vm.findClass "java/lang/StringUTF16" = some m.cls := findClass_of_methodNamed Bd.named
  have hnm := (name_of_methodNamed Bd.named Bd.method).1
  have X0 : Stand p l e (own_R 4 0 0 58) s m #[(.ref t), (.int wc), (.int (0 : Int32)), (.int (3 : Int32))] below meth c s₁ [] 0 0 := Stand.of_body Bd
  have e0 : s₁.heap = h0 := by rw [← hh, Bd.state]; rfl
  have N0 := Fr.nil n0
  refine go_of (A := s₁.setTop (entryFrame m #[(.ref t), (.int wc), (.int (0 : Int32)), (.int (3 : Int32))] 4)) (B := s₁.setTop (mkF m 0 #[.val (.ref t), .val (.int wc), .val (.int (0 : Int32)), .val (.int (3 : Int32))] [])) (fun _ kk' => castTop (ef_uio_3 m t wc) kk') ?_
  refine go_of (B := (s₁.setTop (mkF m 2 #[.val (.ref t), .val (.int wc), .val (.int (0 : Int32)), .val (.int (3 : Int32))] [(.int (0 : Int32)), (.int (0 : Int32))]))) (fun _ kk => XS.iloadN X0.here hx rfl (hb hby d25_0) rfl (XS.iconst X0.here hx rfl (hb hby d25_1) kk)) ?_
  obtain ⟨_, _, ⟨T1, L1, k1, n1⟩, -, X1, ⟨Lc1, hQ1, l1, y1, z1⟩, st1⟩ := Jvm.LawKit.callS X0 hx (y := MN3) hown (mvT hZ (wd 110 rfl)) (mvT hZ (wd 66 rfl)) (mvT hZ (wd 67 rfl)) (mvT hZ (wd 68 rfl)) (by decide) (backOf (W := 0) (v_max l Z a0 hw [] (0 : Int32) (0 : Int32) (0 : Int32) h0 n0 (by omega) (by decide)) hZ (wd 68 rfl) (wd 67 rfl) (by decide) (by decide)) (g := (mkF m 2 #[.val (.ref t), .val (.int wc), .val (.int (0 : Int32)), .val (.int (3 : Int32))] [(.int (0 : Int32)), (.int (0 : Int32))])) rfl (by rw [hml]; rfl) (argsL := [(.int (0 : Int32)), (.int (0 : Int32))]) (rest := []) (lenOf pd__II_I rfl) rfl (Nat.le_of_eq rfl) (hb hby d25_2) (fun _ _ => ⟨rfl, e0, (by decide : 0 + 0 ≤ _), (by decide : 0 + 0 ≤ _)⟩)
  dsimp only [Pt.U, Pt.locs, Pt.cells, Pt.slots] at X1 l1 y1 z1 st1 hQ1
  subst l1 y1 z1
  obtain ⟨rfl, N1q, e1⟩ := hQ1
  have N1 := Fr.app N0 N1q
  refine go_of (B := (T1.setTop (mkF m 5 #[.val (.ref t), .val (.int wc), .val (.int (0 : Int32)), .val (.int (3 : Int32))] [(.int (0 : Int32))]))) (st1) ?_
  refine go_of (B := (T1.setTop (mkF m 8 #[.val (.ref t), .val (.int wc), .val (.int (0 : Int32)), .val (.int (3 : Int32))] [(.ref t), (.int (3 : Int32))]))) (fun _ kk => XS.istoreN X1.here hx rfl (hb hby d25_5) rfl rfl (XS.iloadN X1.here hx rfl (hb hby d25_6) rfl (XS.aloadN X1.here hx rfl (hb hby d25_7) rfl rfl kk))) ?_
  obtain ⟨cl2, Ar2, q2, Sz2, Nn2, Hh2, G2⟩ := id (V)
  have ln2 := len_of Sz2 Nn2
  refine go_of (B := (T1.setTop (mkF m 9 #[.val (.ref t), .val (.int wc), .val (.int (0 : Int32)), .val (.int (3 : Int32))] [(.int (6 : Int32)), (.int (3 : Int32))]))) (fun _ kk => X1.arraylength hx (by rw [e1]; exact Ar2.1) (State.isArrayOf_alike hZ.alike Ar2.2.1) (g := (mkF m 8 #[.val (.ref t), .val (.int wc), .val (.int (0 : Int32)), .val (.int (3 : Int32))] [(.ref t), (.int (3 : Int32))])) rfl rfl (hb hby d25_8) _ (by rw [ln2]; exact kk)) ?_
  refine go_of (B := (T1.setTop (mkF m 11 #[.val (.ref t), .val (.int wc), .val (.int (0 : Int32)), .val (.int (3 : Int32))] [(.int (3 : Int32)), (.int (3 : Int32))]))) (fun _ kk => XS.iconst X1.here hx rfl (hb hby d25_9) (XS.ishr X1.here hx rfl (hb hby d25_10) rfl kk)) ?_
  obtain ⟨_, _, ⟨T3, L3, k3, n3⟩, -, X3, ⟨Lc3, hQ3, l3, y3, z3⟩, st3⟩ := Jvm.LawKit.callS X1 hx (y := MN4) hown (mvT hZ (wd 111 rfl)) (mvT hZ (wd 70 rfl)) (mvT hZ (wd 67 rfl)) (mvT hZ (wd 71 rfl)) (by decide) (backOf (W := 0) (v_min l Z a0 hw [] (3 : Int32) (3 : Int32) (3 : Int32) h0 n0 (by omega) (by decide)) hZ (wd 71 rfl) (wd 67 rfl) (by decide) (by decide)) (g := (mkF m 11 #[.val (.ref t), .val (.int wc), .val (.int (0 : Int32)), .val (.int (3 : Int32))] [(.int (3 : Int32)), (.int (3 : Int32))])) rfl (by rw [hml]; rfl) (argsL := [(.int (3 : Int32)), (.int (3 : Int32))]) (rest := []) (lenOf pd__II_I rfl) rfl (Nat.le_of_eq rfl) (hb hby d25_11) (fun _ _ => ⟨rfl, e1, (by decide : 0 + 0 ≤ _), (by decide : 0 + 0 ≤ _)⟩)
  dsimp only [Pt.U, Pt.locs, Pt.cells, Pt.slots] at X3 l3 y3 z3 st3 hQ3
  subst l3 y3 z3
  obtain ⟨rfl, N3q, e3⟩ := hQ3
  have N3 := Fr.app N1 N3q
  refine go_of (B := (T3.setTop (mkF m 14 #[.val (.ref t), .val (.int wc), .val (.int (0 : Int32)), .val (.int (3 : Int32))] [(.int (3 : Int32))]))) (st3) ?_
  refine go_of (B := (T3.setTop (mkF m 25 #[.val (.ref t), .val (.int wc), .val (.int (0 : Int32)), .val (.int (3 : Int32))] [(.int (65536 : Int32)), (.int wc)]))) (fun _ kk => XS.istoreN X3.here hx rfl (hb hby d25_14) rfl rfl (XS.iloadN X3.here hx rfl (hb hby d25_15) rfl (XS.iloadN X3.here hx rfl (hb hby d25_16) rfl (XS.icmpYes X3.here hx rfl (pc0 := 17) (pc' := 22) rfl (hb hby d25_17) rfl (tlt (by decide : (0 : Int32) < (3 : Int32))).1 (by decide) (by decide) (XS.iloadN X3.here hx rfl (hb hby d25_22) rfl (X3.ldcInt hx hown (mvT hZ (wd 112 rfl)) (g := (mkF m 23 #[.val (.ref t), .val (.int wc), .val (.int (0 : Int32)), .val (.int (3 : Int32))] [(.int wc)])) rfl (hb hby d25_23) _ kk)))))) ?_
  refine go_of (B := (T3.setTop (mkF m 32 #[.val (.ref t), .val (.int wc), .val (.int (0 : Int32)), .val (.int (3 : Int32))] [(.int (3 : Int32)), (.int (0 : Int32)), (.int wc), (.ref t)]))) (fun _ kk => XS.icmpNo X3.here hx rfl (hb hby d25_25) rfl (tlt (own_lt64 hwc)).2.1 (XS.aloadN X3.here hx rfl (hb hby d25_28) rfl rfl (XS.iloadN X3.here hx rfl (hb hby d25_29) rfl (XS.iloadN X3.here hx rfl (hb hby d25_30) rfl (XS.iloadN X3.here hx rfl (hb hby d25_31) rfl kk))))) ?_
  obtain ⟨_, _, ⟨T4, L4, k4, n4⟩, -, X4, ⟨Lc4, hQ4, l4, y4, z4⟩, st4⟩ := Jvm.LawKit.callS X3 hx (y := MN21) hown (mvT hZ (wd 113 rfl)) (mvT hZ (wd 114 rfl)) (mvT hZ (wd 77 rfl)) (mvT hZ (wd 115 rfl)) (by decide) (backOf (W := 0) (uic_3 l Z a0 hw [] t wc c0 c1 c2 k gF h0 n0 (by omega) O SU V hc0 hc1 hc2 SF rgF) hZ (wd 115 rfl) (wd 77 rfl) (by decide) (by decide)) (g := (mkF m 32 #[.val (.ref t), .val (.int wc), .val (.int (0 : Int32)), .val (.int (3 : Int32))] [(.int (3 : Int32)), (.int (0 : Int32)), (.int wc), (.ref t)])) rfl (by rw [hml]; rfl) (argsL := [(.ref t), (.int wc), (.int (0 : Int32)), (.int (3 : Int32))]) (rest := []) (lenOf pd___BIII_I rfl) rfl (Nat.le_of_eq rfl) (hb hby d25_32) (fun _ _ => ⟨rfl, e3, (by decide : 0 + 0 ≤ _), (by decide : 0 + 0 ≤ _)⟩)
  dsimp only [Pt.U, Pt.locs, Pt.cells, Pt.slots] at X4 l4 y4 z4 st4 hQ4
  subst l4 y4 z4
  obtain ⟨r4, rfl, hr4, N4q, e4⟩ := hQ4
  have N4 := Fr.app N3 N4q
  refine go_of (B := (T4.setTop (mkF m 35 #[.val (.ref t), .val (.int wc), .val (.int (0 : Int32)), .val (.int (3 : Int32))] [(.int r4)]))) (st4) ?_
  refine go_end X4 (v := some (.int r4)) (fun h => by rw [Bd.returns] at h; cases h) Bd.notSynchronized (by decide) (by decide) (Q := (Q_uio_3 Z t wc c0 c1 c2 k gF h0 n0)) ?_ (fun fs hr => own_retI X4 hx Bd.returns (hb hby d25_35) hr)
  unfold Q_uio_3
  try rw [e4]
  exact ⟨_, rfl, hr4, N4, rfl⟩
def Q_si2l_3 (Z : State) (a : Addr) (wc : Int32) (c0 : Int32) (c1 : Int32) (c2 : Int32) (gC : Int32) (gF : Value) (h0 : Heap) (n0 : Nat) (v : Option Value) (h : Heap) (L : List Loc) : Prop := ∃ r : Int32, v = some (.int r) ∧ (r < 0 ↔ own_hs wc [c0, c1, c2] = false) ∧ Fr n0 L ∧ h = h0
theorem ef_si2l_3 (m : MethodId) (a : Addr) (wc : Int32)  : entryFrame m #[(.ref a), (.int wc), (.int (0 : Int32))] 3 = mkF m 0 #[.val (.ref a), .val (.int wc), .val (.int (0 : Int32))] [] := by first | (simp [entryFrame, mkF, argsToLocals, Value.category]; done) | rfl
theorem si2l_3 (l : Launch) (Z : State) (a0 : Array Value) (hw : TW a0 Z) (ws : List Cond) (a : Addr) (wc : Int32) (c0 : Int32) (c1 : Int32) (c2 : Int32) (gC : Int32) (gF : Value) (h0 : Heap) (n0 : Nat) (Z0 : n0 ≤ h0.size) (O : Old Z n0 h0) (SC : Sta Z Z.heap "java/lang/String" "COMPACT_STRINGS" "Z" (.int gC)) (hgC : ¬ gC = (0 : Int32)) (S : Str Z h0 a 3 [c0, c1, c2]) (SU : US Z) (SF : Sta Z Z.heap "jdk/internal/util/Preconditions" "SIOOBE_FORMATTER" "Ljava/util/function/BiFunction;" gF) (rgF : gF.isRef = true) (hwc : ¬ wc < 0 ∧ ¬ (255 : Int32) < wc) :
    own_MF l Z MN9 jdk_42_method_80_code 3 (some .int) ws (own_R 5 0 0 73) #[(.ref a), (.int wc), (.int (0 : Int32))] h0 (Q_si2l_3 Z a wc c0 c1 c2 gC gF h0 n0) := by
  have wd := @own_wd _ _ hw
  refine MetFree.of_bodySF (plainFor_of_name pn_java_lang_String) hisR ?_
  intro p e s m args below meth c s₁ Bd hml0 hP hK
  obtain ⟨rfl, hZ, hh⟩ := hP
  have hx := Bd.exec
  have hby := Bd.bytes
  have hml : c.maxLocals = 3 := hml0
  have hown : s.vm.findClass "java/lang/String" = some m.cls := findClass_of_methodNamed Bd.named
  have hnm := (name_of_methodNamed Bd.named Bd.method).1
  have X0 : Stand p l e (own_R 5 0 0 73) s m #[(.ref a), (.int wc), (.int (0 : Int32))] below meth c s₁ [] 0 0 := Stand.of_body Bd
  have e0 : s₁.heap = h0 := by rw [← hh, Bd.state]; rfl
  have N0 := Fr.nil n0
  obtain ⟨t, k, Ea, Fc, Fv, Va, hcs⟩ := (id S)
  have lta := own_nlt (Ea.lt)
  have ltt := own_nlt (Va.lt)
  refine go_of (A := s₁.setTop (entryFrame m #[(.ref a), (.int wc), (.int (0 : Int32))] 3)) (B := s₁.setTop (mkF m 0 #[.val (.ref a), .val (.int wc), .val (.int (0 : Int32))] [])) (fun _ kk' => castTop (ef_si2l_3 m a wc) kk') ?_
  refine go_of (B := (s₁.setTop (mkF m 1 #[.val (.ref a), .val (.int wc), .val (.int (0 : Int32))] [(.ref a)]))) (fun _ kk => XS.aloadN X0.here hx rfl (hb hby d7_0) rfl rfl kk) ?_
  obtain ⟨cq1, kq1, q1a, q1b, q1c⟩ := isOf hZ e0 Ea
  obtain ⟨_, _, ⟨T1, L1, k1, n1⟩, -, X1, ⟨Lc1, hQ1, l1, y1, z1⟩, st1⟩ := X0.virtualBack hx (y := MN10) (z := MN10) hown (mvT hZ (wd 42 rfl)) (mvT hZ (wd 43 rfl)) (notFace_of_selects (args := #[]) (mvT hZ (wd 45 rfl))) (mvT hZ (wd 45 rfl)) (mvT hZ (wd 44 rfl)) (by decide) (backOf (W := 0) (str_latin l Z a0 hw [] a gC h0 n0 (by omega) O SC hgC Fc) hZ (wd 46 rfl) (wd 9 rfl) (by decide) (by decide)) q1a q1c (g := (mkF m 1 #[.val (.ref a), .val (.int wc), .val (.int (0 : Int32))] [(.ref a)])) rfl (by rw [hml]; rfl) (Steps.refl _) (argsL := []) (rest := []) (lenOf pd___Z rfl) rfl (Nat.le_of_eq rfl) (hb hby d7_1) (fun _ _ => ⟨rfl, e0, (by decide : 0 + 0 ≤ _), (by decide : 0 + 0 ≤ _)⟩)
  dsimp only [Pt.U, Pt.locs, Pt.cells, Pt.slots] at X1 l1 y1 z1 st1 hQ1
  subst l1 y1 z1
  obtain ⟨rfl, N1q, e1⟩ := hQ1
  have N1 := Fr.app N0 N1q
  refine go_tr (B := (T1.setTop (mkF m 4 #[.val (.ref a), .val (.int wc), .val (.int (0 : Int32))] [(.int (1 : Int32))]))) (st1) ?_
  refine go_of (B := (T1.setTop (mkF m 8 #[.val (.ref a), .val (.int wc), .val (.int (0 : Int32))] [(.ref a)]))) (fun _ kk => XS.ifNo X1.here hx rfl (hb hby d7_4) rfl ((if0 _ _).trans (feq (by decide : ¬ ((1 : Int32) = (0 : Int32)))).1) (XS.aloadN X1.here hx rfl (hb hby d7_7) rfl rfl kk)) ?_
  obtain ⟨T2, X2, e2, st2⟩ := getF X1 hx hZ hown (host := "") (Or.inl (wd 26 rfl)) Via.refl e1 Fv (g := (mkF m 8 #[.val (.ref a), .val (.int wc), .val (.int (0 : Int32))] [(.ref a)])) rfl rfl (hb hby d7_8)
  refine go_of (B := (T2.setTop (mkF m 11 #[.val (.ref a), .val (.int wc), .val (.int (0 : Int32))] [(.ref t)]))) (st2) ?_
  refine go_of (B := (T2.setTop (mkF m 14 #[.val (.ref a), .val (.int wc), .val (.int (0 : Int32))] [(.ref a), (.int (0 : Int32)), (.int wc), (.ref t)]))) (fun _ kk => XS.iloadN X2.here hx rfl (hb hby d7_11) rfl (XS.iloadN X2.here hx rfl (hb hby d7_12) rfl (XS.aloadN X2.here hx rfl (hb hby d7_13) rfl rfl kk))) ?_
  obtain ⟨cq3, kq3, q3a, q3b, q3c⟩ := isOf hZ e2 Ea
  obtain ⟨_, _, ⟨T3, L3, k3, n3⟩, -, X3, ⟨Lc3, hQ3, l3, y3, z3⟩, st3⟩ := X2.virtualBack hx (y := MN11) (z := MN11) hown (mvT hZ (wd 48 rfl)) (mvT hZ (wd 49 rfl)) (notFace_of_selects (args := #[]) (mvT hZ (wd 51 rfl))) (mvT hZ (wd 51 rfl)) (mvT hZ (wd 50 rfl)) (by decide) (backOf (W := 3) (u_len l Z a0 hw [] a (3 : Int32) (6 : Int32) [c0, c1, c2] gC h0 n0 (by omega) O SC hgC (Or.inl S) (by decide)) hZ (wd 52 rfl) (wd 9 rfl) (by decide) (by decide)) q3a q3c (g := (mkF m 14 #[.val (.ref a), .val (.int wc), .val (.int (0 : Int32))] [(.ref a), (.int (0 : Int32)), (.int wc), (.ref t)])) rfl (by rw [hml]; rfl) (Steps.refl _) (argsL := []) (rest := [(.int (0 : Int32)), (.int wc), (.ref t)]) (lenOf pd___I rfl) rfl (Nat.le_of_eq rfl) (hb hby d7_14) (fun _ _ => ⟨rfl, e2, (by decide : 0 + 0 ≤ _), (by decide : 0 + 0 ≤ _)⟩)
  dsimp only [Pt.U, Pt.locs, Pt.cells, Pt.slots] at X3 l3 y3 z3 st3 hQ3
  subst l3 y3 z3
  obtain ⟨rfl, N3q, e3⟩ := hQ3
  have N3 := Fr.app N1 N3q
  refine go_tr (B := (T3.setTop (mkF m 17 #[.val (.ref a), .val (.int wc), .val (.int (0 : Int32))] [(.int (3 : Int32)), (.int (0 : Int32)), (.int wc), (.ref t)]))) (st3) ?_
  obtain ⟨_, _, ⟨T4, L4, k4, n4⟩, -, X4, ⟨Lc4, hQ4, l4, y4, z4⟩, st4⟩ := Jvm.LawKit.callS X3 hx (y := MN13) hown (mvT hZ (wd 58 rfl)) (mvT hZ (wd 59 rfl)) (mvT hZ (wd 60 rfl)) (mvT hZ (wd 61 rfl)) (by decide) (backOf (W := 0) (lio_3 l Z a0 hw [] t wc (own_b8 c0) (own_b8 c1) (own_b8 c2) k h0 n0 (by omega) Va hwc) hZ (wd 61 rfl) (wd 60 rfl) (by decide) (by decide)) (g := (mkF m 17 #[.val (.ref a), .val (.int wc), .val (.int (0 : Int32))] [(.int (3 : Int32)), (.int (0 : Int32)), (.int wc), (.ref t)])) rfl (by rw [hml]; rfl) (argsL := [(.ref t), (.int wc), (.int (0 : Int32)), (.int (3 : Int32))]) (rest := []) (lenOf pd___BIII_I rfl) rfl (Nat.le_of_eq rfl) (hb hby d7_17) (fun _ _ => ⟨rfl, e3, (by decide : 0 + 0 ≤ _), (by decide : 0 + 0 ≤ _)⟩)
  dsimp only [Pt.U, Pt.locs, Pt.cells, Pt.slots] at X4 l4 y4 z4 st4 hQ4
  subst l4 y4 z4
  obtain ⟨r4, rfl, hr4, N4q, e4⟩ := hQ4
  have N4 := Fr.app N3 N4q
  refine go_of (B := (T4.setTop (mkF m 20 #[.val (.ref a), .val (.int wc), .val (.int (0 : Int32))] [(.int r4)]))) (st4) ?_
  refine go_of (B := (T4.setTop (mkF m 36 #[.val (.ref a), .val (.int wc), .val (.int (0 : Int32))] [(.int r4)]))) (fun _ kk => XS.goto X4.here hx rfl (pc0 := 20) (pc' := 36) rfl (hb hby d7_20) (by decide) (by decide) kk) ?_
  refine go_end X4 (v := some (.int r4)) (fun h => by rw [Bd.returns] at h; cases h) Bd.notSynchronized (by decide) (by decide) (Q := (Q_si2l_3 Z a wc c0 c1 c2 gC gF h0 n0)) ?_ (fun fs hr => own_retI X4 hx Bd.returns (hb hby d7_36) hr)
  unfold Q_si2l_3
  try rw [e4]
  exact ⟨_, rfl, hr4.trans (iff_of_eq (congrArg (fun b => b = false) (own_hsb wc hwc [c0, c1, c2] hcs))), N4, rfl⟩
def Q_si2w_3 (Z : State) (a : Addr) (wc : Int32) (c0 : Int32) (c1 : Int32) (c2 : Int32) (gC : Int32) (gF : Value) (h0 : Heap) (n0 : Nat) (v : Option Value) (h : Heap) (L : List Loc) : Prop := ∃ r : Int32, v = some (.int r) ∧ (r < 0 ↔ own_hs wc [c0, c1, c2] = false) ∧ Fr n0 L ∧ h = h0
theorem ef_si2w_3 (m : MethodId) (a : Addr) (wc : Int32)  : entryFrame m #[(.ref a), (.int wc), (.int (0 : Int32))] 3 = mkF m 0 #[.val (.ref a), .val (.int wc), .val (.int (0 : Int32))] [] := by first | (simp [entryFrame, mkF, argsToLocals, Value.category]; done) | rfl
theorem si2w_3 (l : Launch) (Z : State) (a0 : Array Value) (hw : TW a0 Z) (ws : List Cond) (a : Addr) (wc : Int32) (c0 : Int32) (c1 : Int32) (c2 : Int32) (gC : Int32) (gF : Value) (h0 : Heap) (n0 : Nat) (Z0 : n0 ≤ h0.size) (O : Old Z n0 h0) (SC : Sta Z Z.heap "java/lang/String" "COMPACT_STRINGS" "Z" (.int gC)) (hgC : ¬ gC = (0 : Int32)) (S : StrW Z h0 a 6 [c0, c1, c2]) (SU : US Z) (SF : Sta Z Z.heap "jdk/internal/util/Preconditions" "SIOOBE_FORMATTER" "Ljava/util/function/BiFunction;" gF) (rgF : gF.isRef = true) (hwc : ¬ wc < 0 ∧ ¬ (255 : Int32) < wc) :
    own_MF l Z MN9 jdk_42_method_80_code 3 (some .int) ws (own_R 5 0 0 73) #[(.ref a), (.int wc), (.int (0 : Int32))] h0 (Q_si2w_3 Z a wc c0 c1 c2 gC gF h0 n0) := by
  have wd := @own_wd _ _ hw
  refine MetFree.of_bodySF (plainFor_of_name pn_java_lang_String) hisR ?_
  intro p e s m args below meth c s₁ Bd hml0 hP hK
  obtain ⟨rfl, hZ, hh⟩ := hP
  have hx := Bd.exec
  have hby := Bd.bytes
  have hml : c.maxLocals = 3 := hml0
  have hown : s.vm.findClass "java/lang/String" = some m.cls := findClass_of_methodNamed Bd.named
  have hnm := (name_of_methodNamed Bd.named Bd.method).1
  have X0 : Stand p l e (own_R 5 0 0 73) s m #[(.ref a), (.int wc), (.int (0 : Int32))] below meth c s₁ [] 0 0 := Stand.of_body Bd
  have e0 : s₁.heap = h0 := by rw [← hh, Bd.state]; rfl
  have N0 := Fr.nil n0
  obtain ⟨t, k, Ea, Fc, Fv, Va, hcs⟩ := id S
  have hc0 : ¬ c0 < 0 ∧ ¬ (65535 : Int32) < c0 := hcs c0 (List.mem_of_getElem? (i := 0) rfl)
  have hc1 : ¬ c1 < 0 ∧ ¬ (65535 : Int32) < c1 := hcs c1 (List.mem_of_getElem? (i := 1) rfl)
  have hc2 : ¬ c2 < 0 ∧ ¬ (65535 : Int32) < c2 := hcs c2 (List.mem_of_getElem? (i := 2) rfl)
  refine go_of (A := s₁.setTop (entryFrame m #[(.ref a), (.int wc), (.int (0 : Int32))] 3)) (B := s₁.setTop (mkF m 0 #[.val (.ref a), .val (.int wc), .val (.int (0 : Int32))] [])) (fun _ kk' => castTop (ef_si2w_3 m a wc) kk') ?_
  refine go_of (B := (s₁.setTop (mkF m 1 #[.val (.ref a), .val (.int wc), .val (.int (0 : Int32))] [(.ref a)]))) (fun _ kk => XS.aloadN X0.here hx rfl (hb hby d7_0) rfl rfl kk) ?_
  obtain ⟨cq1, kq1, q1a, q1b, q1c⟩ := isOf hZ e0 Ea
  obtain ⟨_, _, ⟨T1, L1, k1, n1⟩, -, X1, ⟨Lc1, hQ1, l1, y1, z1⟩, st1⟩ := X0.virtualBack hx (y := MN10) (z := MN10) hown (mvT hZ (wd 42 rfl)) (mvT hZ (wd 43 rfl)) (notFace_of_selects (args := #[]) (mvT hZ (wd 45 rfl))) (mvT hZ (wd 45 rfl)) (mvT hZ (wd 44 rfl)) (by decide) (backOf (W := 0) (u_lat l Z a0 hw [] a gC h0 n0 (by omega) O SC hgC Fc) hZ (wd 46 rfl) (wd 9 rfl) (by decide) (by decide)) q1a q1c (g := (mkF m 1 #[.val (.ref a), .val (.int wc), .val (.int (0 : Int32))] [(.ref a)])) rfl (by rw [hml]; rfl) (Steps.refl _) (argsL := []) (rest := []) (lenOf pd___Z rfl) rfl (Nat.le_of_eq rfl) (hb hby d7_1) (fun _ _ => ⟨rfl, e0, (by decide : 0 + 0 ≤ _), (by decide : 0 + 0 ≤ _)⟩)
  dsimp only [Pt.U, Pt.locs, Pt.cells, Pt.slots] at X1 l1 y1 z1 st1 hQ1
  subst l1 y1 z1
  obtain ⟨rfl, N1q, e1⟩ := hQ1
  have N1 := Fr.app N0 N1q
  refine go_tr (B := (T1.setTop (mkF m 4 #[.val (.ref a), .val (.int wc), .val (.int (0 : Int32))] [(.int (0 : Int32))]))) (st1) ?_
  refine go_of (B := (T1.setTop (mkF m 24 #[.val (.ref a), .val (.int wc), .val (.int (0 : Int32))] [(.ref a)]))) (fun _ kk => XS.ifYes X1.here hx rfl (pc0 := 4) (pc' := 23) rfl (hb hby d7_4) rfl ((if0 _ _).trans (teq (by decide : (0 : Int32) = (0 : Int32))).1) (by decide) (by decide) (XS.aloadN X1.here hx rfl (hb hby d7_23) rfl rfl kk)) ?_
  obtain ⟨T2, X2, e2, st2⟩ := getF X1 hx hZ hown (host := "") (Or.inl (wd 26 rfl)) Via.refl e1 Fv (g := (mkF m 24 #[.val (.ref a), .val (.int wc), .val (.int (0 : Int32))] [(.ref a)])) rfl rfl (hb hby d7_24)
  refine go_of (B := (T2.setTop (mkF m 27 #[.val (.ref a), .val (.int wc), .val (.int (0 : Int32))] [(.ref t)]))) (st2) ?_
  refine go_of (B := (T2.setTop (mkF m 30 #[.val (.ref a), .val (.int wc), .val (.int (0 : Int32))] [(.ref a), (.int (0 : Int32)), (.int wc), (.ref t)]))) (fun _ kk => XS.iloadN X2.here hx rfl (hb hby d7_27) rfl (XS.iloadN X2.here hx rfl (hb hby d7_28) rfl (XS.aloadN X2.here hx rfl (hb hby d7_29) rfl rfl kk))) ?_
  obtain ⟨cq3, kq3, q3a, q3b, q3c⟩ := isOf hZ e2 Ea
  obtain ⟨_, _, ⟨T3, L3, k3, n3⟩, -, X3, ⟨Lc3, hQ3, l3, y3, z3⟩, st3⟩ := X2.virtualBack hx (y := MN11) (z := MN11) hown (mvT hZ (wd 48 rfl)) (mvT hZ (wd 49 rfl)) (notFace_of_selects (args := #[]) (mvT hZ (wd 51 rfl))) (mvT hZ (wd 51 rfl)) (mvT hZ (wd 50 rfl)) (by decide) (backOf (W := 3) (u_len l Z a0 hw [] a (3 : Int32) (6 : Int32) [c0, c1, c2] gC h0 n0 (by omega) O SC hgC (Or.inr S) (by decide)) hZ (wd 52 rfl) (wd 9 rfl) (by decide) (by decide)) q3a q3c (g := (mkF m 30 #[.val (.ref a), .val (.int wc), .val (.int (0 : Int32))] [(.ref a), (.int (0 : Int32)), (.int wc), (.ref t)])) rfl (by rw [hml]; rfl) (Steps.refl _) (argsL := []) (rest := [(.int (0 : Int32)), (.int wc), (.ref t)]) (lenOf pd___I rfl) rfl (Nat.le_of_eq rfl) (hb hby d7_30) (fun _ _ => ⟨rfl, e2, (by decide : 0 + 0 ≤ _), (by decide : 0 + 0 ≤ _)⟩)
  dsimp only [Pt.U, Pt.locs, Pt.cells, Pt.slots] at X3 l3 y3 z3 st3 hQ3
  subst l3 y3 z3
  obtain ⟨rfl, N3q, e3⟩ := hQ3
  have N3 := Fr.app N1 N3q
  refine go_tr (B := (T3.setTop (mkF m 33 #[.val (.ref a), .val (.int wc), .val (.int (0 : Int32))] [(.int (3 : Int32)), (.int (0 : Int32)), (.int wc), (.ref t)]))) (st3) ?_
  obtain ⟨_, _, ⟨T4, L4, k4, n4⟩, -, X4, ⟨Lc4, hQ4, l4, y4, z4⟩, st4⟩ := Jvm.LawKit.callS X3 hx (y := MN20) hown (mvT hZ (wd 107 rfl)) (mvT hZ (wd 108 rfl)) (mvT hZ (wd 77 rfl)) (mvT hZ (wd 109 rfl)) (by decide) (backOf (W := 0) (uio_3 l Z a0 hw [] t wc c0 c1 c2 k gF h0 n0 (by omega) O SU Va hc0 hc1 hc2 SF rgF hwc) hZ (wd 109 rfl) (wd 77 rfl) (by decide) (by decide)) (g := (mkF m 33 #[.val (.ref a), .val (.int wc), .val (.int (0 : Int32))] [(.int (3 : Int32)), (.int (0 : Int32)), (.int wc), (.ref t)])) rfl (by rw [hml]; rfl) (argsL := [(.ref t), (.int wc), (.int (0 : Int32)), (.int (3 : Int32))]) (rest := []) (lenOf pd___BIII_I rfl) rfl (Nat.le_of_eq rfl) (hb hby d7_33) (fun _ _ => ⟨rfl, e3, (by decide : 0 + 0 ≤ _), (by decide : 0 + 0 ≤ _)⟩)
  dsimp only [Pt.U, Pt.locs, Pt.cells, Pt.slots] at X4 l4 y4 z4 st4 hQ4
  subst l4 y4 z4
  obtain ⟨r4, rfl, hr4, N4q, e4⟩ := hQ4
  have N4 := Fr.app N3 N4q
  refine go_of (B := (T4.setTop (mkF m 36 #[.val (.ref a), .val (.int wc), .val (.int (0 : Int32))] [(.int r4)]))) (st4) ?_
  refine go_end X4 (v := some (.int r4)) (fun h => by rw [Bd.returns] at h; cases h) Bd.notSynchronized (by decide) (by decide) (Q := (Q_si2w_3 Z a wc c0 c1 c2 gC gF h0 n0)) ?_ (fun fs hr => own_retI X4 hx Bd.returns (hb hby d7_36) hr)
  unfold Q_si2w_3
  try rw [e4]
  exact ⟨_, rfl, hr4, N4, rfl⟩
theorem si2_3 (l : Launch) (Z : State) (a0 : Array Value) (hw : ∀ d ∈ tables_1, d.before a0 Z = true) (ws : List Cond) (a : Addr) (wc c0 c1 c2 gC : Int32) (gF : Value) (h0 : Heap) (n0 : Nat) (Z0 : n0 ≤ h0.size) (O : Old Z n0 h0) (SC : Sta Z Z.heap "java/lang/String" "COMPACT_STRINGS" "Z" (.int gC)) (hgC : ¬ gC = (0 : Int32)) (S : StrU Z h0 a 3 6 [c0, c1, c2]) (SU : US Z) (SF : Sta Z Z.heap "jdk/internal/util/Preconditions" "SIOOBE_FORMATTER" "Ljava/util/function/BiFunction;" gF) (rgF : gF.isRef = true) (hwc : ¬ wc < 0 ∧ ¬ (255 : Int32) < wc) :
    MetFree l MN9 (head1 (Jvm.Cond.code MN9 jdk_42_method_80_code 3 (some .int) :: ws) (own_R 5 0 0 73)) (fun aa' U1' => aa' = #[(.ref a), (.int wc), (.int (0 : Int32))] ∧ Z.Warmed39 U1'.vm ∧ U1'.heap = h0) (fun _ _ _ _ _ => True) (fun _ U1' oo' U2' => ∃ vv' LL', oo' = .returned vv' ∧ (Q_si2l_3 Z a wc c0 c1 c2 gC gF h0 n0) vv' U2'.heap LL' ∧ FrameEnd U1' oo' U2' LL' (own_R 5 0 0 73).cells (own_R 5 0 0 73).slots) := by
  rcases S with S | S
  · exact si2l_3 l Z a0 hw ws a wc c0 c1 c2 gC gF h0 n0 Z0 O SC hgC S SU SF rgF hwc
  · exact si2w_3 l Z a0 hw ws a wc c0 c1 c2 gC gF h0 n0 Z0 O SC hgC S SU SF rgF hwc
def Q_si_3 (Z : State) (a : Addr) (wc : Int32) (c0 : Int32) (c1 : Int32) (c2 : Int32) (gC : Int32) (gF : Value) (h0 : Heap) (n0 : Nat) (v : Option Value) (h : Heap) (L : List Loc) : Prop := ∃ r : Int32, v = some (.int r) ∧ (r < 0 ↔ own_hs wc [c0, c1, c2] = false) ∧ Fr n0 L ∧ h = h0
theorem ef_si_3 (m : MethodId) (a : Addr) (wc : Int32)  : entryFrame m #[(.ref a), (.int wc)] 2 = mkF m 0 #[.val (.ref a), .val (.int wc)] [] := by first | (simp [entryFrame, mkF, argsToLocals, Value.category]; done) | rfl
theorem si_3 (l : Launch) (Z : State) (a0 : Array Value) (hw : TW a0 Z) (ws : List Cond) (a : Addr) (wc : Int32) (c0 : Int32) (c1 : Int32) (c2 : Int32) (gC : Int32) (gF : Value) (h0 : Heap) (n0 : Nat) (Z0 : n0 ≤ h0.size) (O : Old Z n0 h0) (SC : Sta Z Z.heap "java/lang/String" "COMPACT_STRINGS" "Z" (.int gC)) (hgC : ¬ gC = (0 : Int32)) (S : StrU Z h0 a 3 6 [c0, c1, c2]) (SU : US Z) (SF : Sta Z Z.heap "jdk/internal/util/Preconditions" "SIOOBE_FORMATTER" "Ljava/util/function/BiFunction;" gF) (rgF : gF.isRef = true) (hwc : ¬ wc < 0 ∧ ¬ (255 : Int32) < wc) :
    own_MF l Z MN8 jdk_42_method_79_code 2 (some .int) ws (own_R 6 0 0 87) #[(.ref a), (.int wc)] h0 (Q_si_3 Z a wc c0 c1 c2 gC gF h0 n0) := by
  have wd := @own_wd _ _ hw
  refine MetFree.of_bodySF (plainFor_of_name pn_java_lang_String) hisR ?_
  intro p e s m args below meth c s₁ Bd hml0 hP hK
  obtain ⟨rfl, hZ, hh⟩ := hP
  have hx := Bd.exec
  have hby := Bd.bytes
  have hml : c.maxLocals = 2 := hml0
  have hown : s.vm.findClass "java/lang/String" = some m.cls := findClass_of_methodNamed Bd.named
  have hnm := (name_of_methodNamed Bd.named Bd.method).1
  have X0 : Stand p l e (own_R 6 0 0 87) s m #[(.ref a), (.int wc)] below meth c s₁ [] 0 0 := Stand.of_body Bd
  have e0 : s₁.heap = h0 := by rw [← hh, Bd.state]; rfl
  have N0 := Fr.nil n0
  refine go_of (A := s₁.setTop (entryFrame m #[(.ref a), (.int wc)] 2)) (B := s₁.setTop (mkF m 0 #[.val (.ref a), .val (.int wc)] [])) (fun _ kk' => castTop (ef_si_3 m a wc) kk') ?_
  refine go_of (B := (s₁.setTop (mkF m 3 #[.val (.ref a), .val (.int wc)] [(.int (0 : Int32)), (.int wc), (.ref a)]))) (fun _ kk => XS.aloadN X0.here hx rfl (hb hby d6_0) rfl rfl (XS.iloadN X0.here hx rfl (hb hby d6_1) rfl (XS.iconst X0.here hx rfl (hb hby d6_2) kk))) ?_
  obtain ⟨cq1, kq1, q1a, q1b, q1c⟩ := isOf hZ e0 S.exa
  obtain ⟨_, _, ⟨T1, L1, k1, n1⟩, -, X1, ⟨Lc1, hQ1, l1, y1, z1⟩, st1⟩ := X0.virtualBack hx (y := MN9) (z := MN9) hown (mvT hZ (wd 37 rfl)) (mvT hZ (wd 38 rfl)) (notFace_of_selects (args := #[]) (mvT hZ (wd 40 rfl))) (mvT hZ (wd 40 rfl)) (mvT hZ (wd 39 rfl)) (by decide) (backOf (W := 0) (si2_3 l Z a0 hw [] a wc c0 c1 c2 gC gF h0 n0 (by omega) O SC hgC S SU SF rgF hwc) hZ (wd 41 rfl) (wd 9 rfl) (by decide) (by decide)) q1a q1c (g := (mkF m 3 #[.val (.ref a), .val (.int wc)] [(.int (0 : Int32)), (.int wc), (.ref a)])) rfl (by rw [hml]; rfl) (Steps.refl _) (argsL := [(.int wc), (.int (0 : Int32))]) (rest := []) (lenOf pd__II_I rfl) rfl (Nat.le_of_eq rfl) (hb hby d6_3) (fun _ _ => ⟨rfl, e0, (by decide : 0 + 0 ≤ _), (by decide : 0 + 0 ≤ _)⟩)
  dsimp only [Pt.U, Pt.locs, Pt.cells, Pt.slots] at X1 l1 y1 z1 st1 hQ1
  subst l1 y1 z1
  obtain ⟨r1, rfl, hr1, N1q, e1⟩ := hQ1
  have N1 := Fr.app N0 N1q
  refine go_tr (B := (T1.setTop (mkF m 6 #[.val (.ref a), .val (.int wc)] [(.int r1)]))) (st1) ?_
  refine go_end X1 (v := some (.int r1)) (fun h => by rw [Bd.returns] at h; cases h) Bd.notSynchronized (by decide) (by decide) (Q := (Q_si_3 Z a wc c0 c1 c2 gC gF h0 n0)) ?_ (fun fs hr => own_retI X1 hx Bd.returns (hb hby d6_6) hr)
  unfold Q_si_3
  try rw [e1]
  exact ⟨_, rfl, hr1, N1, rfl⟩
def Q_isl_3 (Z : State) (a : Addr) (c0 : Int32) (c1 : Int32) (c2 : Int32) (gC : Int32) (gF : Value) (h0 : Heap) (n0 : Nat) (v : Option Value) (h : Heap) (L : List Loc) : Prop := v = some (.int (own_lit [c0, c1, c2])) ∧ Fr n0 L ∧ h = h0
theorem ef_isl_3 (m : MethodId) (a : Addr)  : entryFrame m #[(.ref a)] 1 = mkF m 0 #[.val (.ref a)] [] := by first | (simp [entryFrame, mkF, argsToLocals, Value.category]; done) | rfl
theorem isl_3 (l : Launch) (Z : State) (a0 : Array Value) (hw : TW a0 Z) (ws : List Cond) (a : Addr) (c0 : Int32) (c1 : Int32) (c2 : Int32) (gC : Int32) (gF : Value) (h0 : Heap) (n0 : Nat) (Z0 : n0 ≤ h0.size) (O : Old Z n0 h0) (SC : Sta Z Z.heap "java/lang/String" "COMPACT_STRINGS" "Z" (.int gC)) (hgC : ¬ gC = (0 : Int32)) (S : StrU Z h0 a 3 6 [c0, c1, c2]) (SU : US Z) (SF : Sta Z Z.heap "jdk/internal/util/Preconditions" "SIOOBE_FORMATTER" "Ljava/util/function/BiFunction;" gF) (rgF : gF.isRef = true) :
    own_MF l Z MN0 prog_12_method_3_code 1 (some .boolean) ws (own_R 7 0 0 100) #[(.ref a)] h0 (Q_isl_3 Z a c0 c1 c2 gC gF h0 n0) := by
  have wd := @own_wd _ _ hw
  refine MetFree.of_bodySF (plainFor_of_name pn_com_example_grantline_grantline_Glob) hisR ?_
  intro p e s m args below meth c s₁ Bd hml0 hP hK
  obtain ⟨rfl, hZ, hh⟩ := hP
  have hx := Bd.exec
  have hby := Bd.bytes
  have hml : c.maxLocals = 1 := hml0
  have hown : s.vm.findClass "com/example/grantline/grantline/Glob" = some m.cls := findClass_of_methodNamed Bd.named
  have hnm := (name_of_methodNamed Bd.named Bd.method).1
  have X0 : Stand p l e (own_R 7 0 0 100) s m #[(.ref a)] below meth c s₁ [] 0 0 := Stand.of_body Bd
  have e0 : s₁.heap = h0 := by rw [← hh, Bd.state]; rfl
  have N0 := Fr.nil n0
  refine go_of (A := s₁.setTop (entryFrame m #[(.ref a)] 1)) (B := s₁.setTop (mkF m 0 #[.val (.ref a)] [])) (fun _ kk' => castTop (ef_isl_3 m a) kk') ?_
  refine go_of (B := (s₁.setTop (mkF m 3 #[.val (.ref a)] [(.int (42 : Int32)), (.ref a)]))) (fun _ kk => XS.aloadN X0.here hx rfl (hb hby d5_0) rfl rfl (XS.bipush X0.here hx rfl (hb hby d5_1) kk)) ?_
  obtain ⟨cq1, kq1, q1a, q1b, q1c⟩ := isOf hZ e0 S.exa
  obtain ⟨_, _, ⟨T1, L1, k1, n1⟩, -, X1, ⟨Lc1, hQ1, l1, y1, z1⟩, st1⟩ := X0.virtualBack hx (y := MN8) (z := MN8) hown (mvT hZ (wd 32 rfl)) (mvT hZ (wd 33 rfl)) (notFace_of_selects (args := #[]) (mvT hZ (wd 35 rfl))) (mvT hZ (wd 35 rfl)) (mvT hZ (wd 34 rfl)) (by decide) (backOf (W := 0) (si_3 l Z a0 hw [] a (42 : Int32) c0 c1 c2 gC gF h0 n0 (by omega) O SC hgC S SU SF rgF (by decide)) hZ (wd 36 rfl) (wd 9 rfl) (by decide) (by decide)) q1a q1c (g := (mkF m 3 #[.val (.ref a)] [(.int (42 : Int32)), (.ref a)])) rfl (by rw [hml]; rfl) (Steps.refl _) (argsL := [(.int (42 : Int32))]) (rest := []) (lenOf pd__I_I rfl) rfl (Nat.le_of_eq rfl) (hb hby d5_3) (fun _ _ => ⟨rfl, e0, (by decide : 0 + 0 ≤ _), (by decide : 0 + 0 ≤ _)⟩)
  dsimp only [Pt.U, Pt.locs, Pt.cells, Pt.slots] at X1 l1 y1 z1 st1 hQ1
  subst l1 y1 z1
  obtain ⟨r1, rfl, hr1, N1q, e1⟩ := hQ1
  have N1 := Fr.app N0 N1q
  refine go_tr (B := (T1.setTop (mkF m 6 #[.val (.ref a)] [(.int r1)]))) (st1) ?_
  by_cases hcc2 : r1 < (0 : Int32)
  · refine go_of (B := (T1.setTop (mkF m 12 #[.val (.ref a)] [(.int (63 : Int32)), (.ref a)]))) (fun _ kk => XS.ifNo X1.here hx rfl (hb hby d5_6) rfl ((if0 _ _).trans (tlt hcc2).2.1) (XS.aloadN X1.here hx rfl (hb hby d5_9) rfl rfl (XS.bipush X1.here hx rfl (hb hby d5_10) kk))) ?_
    obtain ⟨cq3, kq3, q3a, q3b, q3c⟩ := isOf hZ e1 S.exa
    obtain ⟨_, _, ⟨T3, L3, k3, n3⟩, -, X3, ⟨Lc3, hQ3, l3, y3, z3⟩, st3⟩ := X1.virtualBack hx (y := MN8) (z := MN8) hown (mvT hZ (wd 32 rfl)) (mvT hZ (wd 33 rfl)) (notFace_of_selects (args := #[]) (mvT hZ (wd 35 rfl))) (mvT hZ (wd 35 rfl)) (mvT hZ (wd 34 rfl)) (by decide) (backOf (W := 0) (si_3 l Z a0 hw [] a (63 : Int32) c0 c1 c2 gC gF h0 n0 (by omega) O SC hgC S SU SF rgF (by decide)) hZ (wd 36 rfl) (wd 9 rfl) (by decide) (by decide)) q3a q3c (g := (mkF m 12 #[.val (.ref a)] [(.int (63 : Int32)), (.ref a)])) rfl (by rw [hml]; rfl) (Steps.refl _) (argsL := [(.int (63 : Int32))]) (rest := []) (lenOf pd__I_I rfl) rfl (Nat.le_of_eq rfl) (hb hby d5_12) (fun _ _ => ⟨rfl, e1, (by decide : 0 + 0 ≤ _), (by decide : 0 + 0 ≤ _)⟩)
    dsimp only [Pt.U, Pt.locs, Pt.cells, Pt.slots] at X3 l3 y3 z3 st3 hQ3
    subst l3 y3 z3
    obtain ⟨r3, rfl, hr3, N3q, e3⟩ := hQ3
    have N3 := Fr.app N1 N3q
    refine go_tr (B := (T3.setTop (mkF m 15 #[.val (.ref a)] [(.int r3)]))) (st3) ?_
    by_cases hcc4 : r3 < (0 : Int32)
    · refine go_of (B := (T3.setTop (mkF m 23 #[.val (.ref a)] [(.int (1 : Int32))]))) (fun _ kk => XS.ifNo X3.here hx rfl (hb hby d5_15) rfl ((if0 _ _).trans (tlt hcc4).2.1) (XS.iconst X3.here hx rfl (hb hby d5_18) (XS.goto X3.here hx rfl (pc0 := 19) (pc' := 23) rfl (hb hby d5_19) (by decide) (by decide) kk))) ?_
      refine go_end X3 (v := some (.int (nar .boolean (1 : Int32)))) (fun h => by rw [Bd.returns] at h; cases h) Bd.notSynchronized (by decide) (by decide) (Q := (Q_isl_3 Z a c0 c1 c2 gC gF h0 n0)) ?_ (fun fs hr => retN X3 hx (t := .boolean) Bd.returns (by simp) (hb hby d5_23) hr)
      unfold Q_isl_3
      try rw [e3]
      refine ⟨?_, N3, rfl⟩
      have hq42 := hr1.mp hcc2
      have hq63 := hr3.mp hcc4
      simp [own_lit, nar, hq42, hq63]
    · refine go_of (B := (T3.setTop (mkF m 23 #[.val (.ref a)] [(.int (0 : Int32))]))) (fun _ kk => XS.ifYes X3.here hx rfl (pc0 := 15) (pc' := 22) rfl (hb hby d5_15) rfl ((if0 _ _).trans (flt hcc4).2.1) (by decide) (by decide) (XS.iconst X3.here hx rfl (hb hby d5_22) kk)) ?_
      refine go_end X3 (v := some (.int (nar .boolean (0 : Int32)))) (fun h => by rw [Bd.returns] at h; cases h) Bd.notSynchronized (by decide) (by decide) (Q := (Q_isl_3 Z a c0 c1 c2 gC gF h0 n0)) ?_ (fun fs hr => retN X3 hx (t := .boolean) Bd.returns (by simp) (hb hby d5_23) hr)
      unfold Q_isl_3
      try rw [e3]
      refine ⟨?_, N3, rfl⟩
      have hq42 := hr1.mp hcc2
      have hq63 := own_bt (fun q => hcc4 (hr3.mpr q))
      simp [own_lit, nar, hq42, hq63]
  · refine go_of (B := (T1.setTop (mkF m 23 #[.val (.ref a)] [(.int (0 : Int32))]))) (fun _ kk => XS.ifYes X1.here hx rfl (pc0 := 6) (pc' := 22) rfl (hb hby d5_6) rfl ((if0 _ _).trans (flt hcc2).2.1) (by decide) (by decide) (XS.iconst X1.here hx rfl (hb hby d5_22) kk)) ?_
    refine go_end X1 (v := some (.int (nar .boolean (0 : Int32)))) (fun h => by rw [Bd.returns] at h; cases h) Bd.notSynchronized (by decide) (by decide) (Q := (Q_isl_3 Z a c0 c1 c2 gC gF h0 n0)) ?_ (fun fs hr => retN X1 hx (t := .boolean) Bd.returns (by simp) (hb hby d5_23) hr)
    unfold Q_isl_3
    try rw [e1]
    refine ⟨?_, N1, rfl⟩
    have hq42 := own_bt (fun q => hcc2 (hr1.mpr q))
    simp [own_lit, nar, hq42]
def Q_ioc_4 (Z : State) (t : Addr) (wc : Int32) (w0 : Int32) (w1 : Int32) (w2 : Int32) (w3 : Int32) (k : ClassId) (h0 : Heap) (n0 : Nat) (v : Option Value) (h : Heap) (L : List Loc) : Prop := ∃ r : Int32, v = some (.int r) ∧ (r < 0 ↔ own_hs (own_b8 wc) [w0, w1, w2, w3] = false) ∧ Fr n0 L ∧ h = h0
theorem ef_ioc_4 (m : MethodId) (t : Addr) (wc : Int32)  : entryFrame m #[(.ref t), (.int wc), (.int (0 : Int32)), (.int (4 : Int32))] 6 = mkF m 0 #[.val (.ref t), .val (.int wc), .val (.int (0 : Int32)), .val (.int (4 : Int32)), .unset, .unset] [] := by first | (simp [entryFrame, mkF, argsToLocals, Value.category]; done) | rfl
theorem ioc_4 (l : Launch) (Z : State) (a0 : Array Value) (hw : TW a0 Z) (ws : List Cond) (t : Addr) (wc : Int32) (w0 : Int32) (w1 : Int32) (w2 : Int32) (w3 : Int32) (k : ClassId) (h0 : Heap) (n0 : Nat) (Z0 : n0 ≤ h0.size) (V : Arv Z h0 t k .byte 4 [(.int w0), (.int w1), (.int w2), (.int w3)] (.int 0)) :
    own_MF l Z MN14 jdk_43_method_23_code 6 (some .int) ws (own_R 0 0 0 0) #[(.ref t), (.int wc), (.int (0 : Int32)), (.int (4 : Int32))] h0 (Q_ioc_4 Z t wc w0 w1 w2 w3 k h0 n0) := by
  have wd := @own_wd _ _ hw
  refine MetFree.of_bodySF (plainFor_of_name pn_java_lang_StringLatin1) hisR ?_
  intro p e s m args below meth c s₁ Bd hml0 hP hK
  obtain ⟨rfl, hZ, hh⟩ := hP
  have hx := Bd.exec
  have hby := Bd.bytes
  have hml : c.maxLocals = 6 := hml0
  have hown : s.vm.findClass "java/lang/StringLatin1" = some m.cls := findClass_of_methodNamed Bd.named
  have hnm := (name_of_methodNamed Bd.named Bd.method).1
  have X0 : Stand p l e (own_R 0 0 0 0) s m #[(.ref t), (.int wc), (.int (0 : Int32)), (.int (4 : Int32))] below meth c s₁ [] 0 0 := Stand.of_body Bd
  have e0 : s₁.heap = h0 := by rw [← hh, Bd.state]; rfl
  have N0 := Fr.nil n0
  refine go_of (A := s₁.setTop (entryFrame m #[(.ref t), (.int wc), (.int (0 : Int32)), (.int (4 : Int32))] 6)) (B := s₁.setTop (mkF m 0 #[.val (.ref t), .val (.int wc), .val (.int (0 : Int32)), .val (.int (4 : Int32)), .unset, .unset] [])) (fun _ kk' => castTop (ef_ioc_4 m t wc) kk') ?_
  refine go_of (B := (s₁.setTop (mkF m 9 #[.val (.ref t), .val (.int wc), .val (.int (0 : Int32)), .val (.int (4 : Int32)), .val (.int (own_b8 wc)), .val (.int (0 : Int32))] [(.int (0 : Int32))]))) (fun _ kk => XS.iloadN X0.here hx rfl (hb hby d19_0) rfl (XS.i2b X0.here hx rfl (hb hby d19_1) rfl (XS.istore X0.here hx rfl (hb hby d19_2) rfl rfl (XS.iloadN X0.here hx rfl (hb hby d19_4) rfl (XS.istore X0.here hx rfl (hb hby d19_5) rfl rfl (XS.iload X0.here hx rfl (hb hby d19_7) rfl kk)))))) ?_
  refine go_of (B := (s₁.setTop (mkF m 16 #[.val (.ref t), .val (.int wc), .val (.int (0 : Int32)), .val (.int (4 : Int32)), .val (.int (own_b8 wc)), .val (.int (0 : Int32))] [(.int (0 : Int32)), (.ref t)]))) (fun _ kk => XS.iloadN X0.here hx rfl (hb hby d19_9) rfl (XS.icmpNo X0.here hx rfl (hb hby d19_10) rfl (tlt (by decide : (0 : Int32) < (4 : Int32))).2.1 (XS.aloadN X0.here hx rfl (hb hby d19_13) rfl rfl (XS.iload X0.here hx rfl (hb hby d19_14) rfl kk)))) ?_
  obtain ⟨cl1, Ar1, q1, Sz1, Nn1, Hh1, G1⟩ := id (V)
  refine go_of (B := (s₁.setTop (mkF m 19 #[.val (.ref t), .val (.int wc), .val (.int (0 : Int32)), .val (.int (4 : Int32)), .val (.int (own_b8 wc)), .val (.int (0 : Int32))] [(.int (own_b8 wc)), (.int w0)]))) (fun _ kk => X0.baloadBytes hx (j := (0 : Int32)) (v := (.int w0)) (by rw [e0]; exact Ar1.1) (State.isArrayOf_alike hZ.alike Ar1.2.1) Ar1.2.2 (inb_of Sz1 ⟨by decide, by decide⟩) (Hh1.at (inb_of Sz1 ⟨by decide, by decide⟩) rfl) (g := (mkF m 16 #[.val (.ref t), .val (.int wc), .val (.int (0 : Int32)), .val (.int (4 : Int32)), .val (.int (own_b8 wc)), .val (.int (0 : Int32))] [(.int (0 : Int32)), (.ref t)])) rfl rfl (hb hby d19_16) _ (XS.iload X0.here hx rfl (hb hby d19_17) rfl kk)) ?_
  by_cases hcc2 : w0 = (own_b8 wc)
  · refine go_of (B := (s₁.setTop (mkF m 24 #[.val (.ref t), .val (.int wc), .val (.int (0 : Int32)), .val (.int (4 : Int32)), .val (.int (own_b8 wc)), .val (.int (0 : Int32))] [(.int (0 : Int32))]))) (fun _ kk => XS.icmpNo X0.here hx rfl (hb hby d19_19) rfl (teq hcc2).2 (XS.iload X0.here hx rfl (hb hby d19_22) rfl kk)) ?_
    refine go_end X0 (v := some (.int (0 : Int32))) (fun h => by rw [Bd.returns] at h; cases h) Bd.notSynchronized (by decide) (by decide) (Q := (Q_ioc_4 Z t wc w0 w1 w2 w3 k h0 n0)) ?_ (fun fs hr => own_retI X0 hx Bd.returns (hb hby d19_24) hr)
    unfold Q_ioc_4
    try rw [e0]
    exact ⟨_, rfl, iff_of_false (by decide) (by simp [own_hs, hcc2]), N0, rfl⟩
  · refine go_of (B := (s₁.setTop (mkF m 13 #[.val (.ref t), .val (.int wc), .val (.int (0 : Int32)), .val (.int (4 : Int32)), .val (.int (own_b8 wc)), .val (.int (1 : Int32))] []))) (fun _ kk => XS.icmpYes X0.here hx rfl (pc0 := 19) (pc' := 25) rfl (hb hby d19_19) rfl (feq hcc2).2 (by decide) (by decide) (XS.iinc X0.here hx rfl (hb hby d19_25) rfl rfl (XS.goto X0.here hx rfl (pc0 := 28) (pc' := 7) rfl (hb hby d19_28) (by decide) (by decide) (XS.iload X0.here hx rfl (hb hby d19_7) rfl (XS.iloadN X0.here hx rfl (hb hby d19_9) rfl (XS.icmpNo X0.here hx rfl (hb hby d19_10) rfl (tlt (by decide : (1 : Int32) < (4 : Int32))).2.1 kk)))))) ?_
    refine go_of (B := (s₁.setTop (mkF m 16 #[.val (.ref t), .val (.int wc), .val (.int (0 : Int32)), .val (.int (4 : Int32)), .val (.int (own_b8 wc)), .val (.int (1 : Int32))] [(.int (1 : Int32)), (.ref t)]))) (fun _ kk => XS.aloadN X0.here hx rfl (hb hby d19_13) rfl rfl (XS.iload X0.here hx rfl (hb hby d19_14) rfl kk)) ?_
    obtain ⟨cl3, Ar3, q3, Sz3, Nn3, Hh3, G3⟩ := id (V)
    refine go_of (B := (s₁.setTop (mkF m 19 #[.val (.ref t), .val (.int wc), .val (.int (0 : Int32)), .val (.int (4 : Int32)), .val (.int (own_b8 wc)), .val (.int (1 : Int32))] [(.int (own_b8 wc)), (.int w1)]))) (fun _ kk => X0.baloadBytes hx (j := (1 : Int32)) (v := (.int w1)) (by rw [e0]; exact Ar3.1) (State.isArrayOf_alike hZ.alike Ar3.2.1) Ar3.2.2 (inb_of Sz3 ⟨by decide, by decide⟩) (Hh3.at (inb_of Sz3 ⟨by decide, by decide⟩) rfl) (g := (mkF m 16 #[.val (.ref t), .val (.int wc), .val (.int (0 : Int32)), .val (.int (4 : Int32)), .val (.int (own_b8 wc)), .val (.int (1 : Int32))] [(.int (1 : Int32)), (.ref t)])) rfl rfl (hb hby d19_16) _ (XS.iload X0.here hx rfl (hb hby d19_17) rfl kk)) ?_
    by_cases hcc4 : w1 = (own_b8 wc)
    · refine go_of (B := (s₁.setTop (mkF m 24 #[.val (.ref t), .val (.int wc), .val (.int (0 : Int32)), .val (.int (4 : Int32)), .val (.int (own_b8 wc)), .val (.int (1 : Int32))] [(.int (1 : Int32))]))) (fun _ kk => XS.icmpNo X0.here hx rfl (hb hby d19_19) rfl (teq hcc4).2 (XS.iload X0.here hx rfl (hb hby d19_22) rfl kk)) ?_
      refine go_end X0 (v := some (.int (1 : Int32))) (fun h => by rw [Bd.returns] at h; cases h) Bd.notSynchronized (by decide) (by decide) (Q := (Q_ioc_4 Z t wc w0 w1 w2 w3 k h0 n0)) ?_ (fun fs hr => own_retI X0 hx Bd.returns (hb hby d19_24) hr)
      unfold Q_ioc_4
      try rw [e0]
      exact ⟨_, rfl, iff_of_false (by decide) (by simp [own_hs, hcc2, hcc4]), N0, rfl⟩
    · refine go_of (B := (s₁.setTop (mkF m 13 #[.val (.ref t), .val (.int wc), .val (.int (0 : Int32)), .val (.int (4 : Int32)), .val (.int (own_b8 wc)), .val (.int (2 : Int32))] []))) (fun _ kk => XS.icmpYes X0.here hx rfl (pc0 := 19) (pc' := 25) rfl (hb hby d19_19) rfl (feq hcc4).2 (by decide) (by decide) (XS.iinc X0.here hx rfl (hb hby d19_25) rfl rfl (XS.goto X0.here hx rfl (pc0 := 28) (pc' := 7) rfl (hb hby d19_28) (by decide) (by decide) (XS.iload X0.here hx rfl (hb hby d19_7) rfl (XS.iloadN X0.here hx rfl (hb hby d19_9) rfl (XS.icmpNo X0.here hx rfl (hb hby d19_10) rfl (tlt (by decide : (2 : Int32) < (4 : Int32))).2.1 kk)))))) ?_
      refine go_of (B := (s₁.setTop (mkF m 16 #[.val (.ref t), .val (.int wc), .val (.int (0 : Int32)), .val (.int (4 : Int32)), .val (.int (own_b8 wc)), .val (.int (2 : Int32))] [(.int (2 : Int32)), (.ref t)]))) (fun _ kk => XS.aloadN X0.here hx rfl (hb hby d19_13) rfl rfl (XS.iload X0.here hx rfl (hb hby d19_14) rfl kk)) ?_
      obtain ⟨cl5, Ar5, q5, Sz5, Nn5, Hh5, G5⟩ := id (V)
      refine go_of (B := (s₁.setTop (mkF m 19 #[.val (.ref t), .val (.int wc), .val (.int (0 : Int32)), .val (.int (4 : Int32)), .val (.int (own_b8 wc)), .val (.int (2 : Int32))] [(.int (own_b8 wc)), (.int w2)]))) (fun _ kk => X0.baloadBytes hx (j := (2 : Int32)) (v := (.int w2)) (by rw [e0]; exact Ar5.1) (State.isArrayOf_alike hZ.alike Ar5.2.1) Ar5.2.2 (inb_of Sz5 ⟨by decide, by decide⟩) (Hh5.at (inb_of Sz5 ⟨by decide, by decide⟩) rfl) (g := (mkF m 16 #[.val (.ref t), .val (.int wc), .val (.int (0 : Int32)), .val (.int (4 : Int32)), .val (.int (own_b8 wc)), .val (.int (2 : Int32))] [(.int (2 : Int32)), (.ref t)])) rfl rfl (hb hby d19_16) _ (XS.iload X0.here hx rfl (hb hby d19_17) rfl kk)) ?_
      by_cases hcc6 : w2 = (own_b8 wc)
      · refine go_of (B := (s₁.setTop (mkF m 24 #[.val (.ref t), .val (.int wc), .val (.int (0 : Int32)), .val (.int (4 : Int32)), .val (.int (own_b8 wc)), .val (.int (2 : Int32))] [(.int (2 : Int32))]))) (fun _ kk => XS.icmpNo X0.here hx rfl (hb hby d19_19) rfl (teq hcc6).2 (XS.iload X0.here hx rfl (hb hby d19_22) rfl kk)) ?_
        refine go_end X0 (v := some (.int (2 : Int32))) (fun h => by rw [Bd.returns] at h; cases h) Bd.notSynchronized (by decide) (by decide) (Q := (Q_ioc_4 Z t wc w0 w1 w2 w3 k h0 n0)) ?_ (fun fs hr => own_retI X0 hx Bd.returns (hb hby d19_24) hr)
        unfold Q_ioc_4
        try rw [e0]
        exact ⟨_, rfl, iff_of_false (by decide) (by simp [own_hs, hcc2, hcc4, hcc6]), N0, rfl⟩
      · refine go_of (B := (s₁.setTop (mkF m 13 #[.val (.ref t), .val (.int wc), .val (.int (0 : Int32)), .val (.int (4 : Int32)), .val (.int (own_b8 wc)), .val (.int (3 : Int32))] []))) (fun _ kk => XS.icmpYes X0.here hx rfl (pc0 := 19) (pc' := 25) rfl (hb hby d19_19) rfl (feq hcc6).2 (by decide) (by decide) (XS.iinc X0.here hx rfl (hb hby d19_25) rfl rfl (XS.goto X0.here hx rfl (pc0 := 28) (pc' := 7) rfl (hb hby d19_28) (by decide) (by decide) (XS.iload X0.here hx rfl (hb hby d19_7) rfl (XS.iloadN X0.here hx rfl (hb hby d19_9) rfl (XS.icmpNo X0.here hx rfl (hb hby d19_10) rfl (tlt (by decide : (3 : Int32) < (4 : Int32))).2.1 kk)))))) ?_
        refine go_of (B := (s₁.setTop (mkF m 16 #[.val (.ref t), .val (.int wc), .val (.int (0 : Int32)), .val (.int (4 : Int32)), .val (.int (own_b8 wc)), .val (.int (3 : Int32))] [(.int (3 : Int32)), (.ref t)]))) (fun _ kk => XS.aloadN X0.here hx rfl (hb hby d19_13) rfl rfl (XS.iload X0.here hx rfl (hb hby d19_14) rfl kk)) ?_
        obtain ⟨cl7, Ar7, q7, Sz7, Nn7, Hh7, G7⟩ := id (V)
        refine go_of (B := (s₁.setTop (mkF m 19 #[.val (.ref t), .val (.int wc), .val (.int (0 : Int32)), .val (.int (4 : Int32)), .val (.int (own_b8 wc)), .val (.int (3 : Int32))] [(.int (own_b8 wc)), (.int w3)]))) (fun _ kk => X0.baloadBytes hx (j := (3 : Int32)) (v := (.int w3)) (by rw [e0]; exact Ar7.1) (State.isArrayOf_alike hZ.alike Ar7.2.1) Ar7.2.2 (inb_of Sz7 ⟨by decide, by decide⟩) (Hh7.at (inb_of Sz7 ⟨by decide, by decide⟩) rfl) (g := (mkF m 16 #[.val (.ref t), .val (.int wc), .val (.int (0 : Int32)), .val (.int (4 : Int32)), .val (.int (own_b8 wc)), .val (.int (3 : Int32))] [(.int (3 : Int32)), (.ref t)])) rfl rfl (hb hby d19_16) _ (XS.iload X0.here hx rfl (hb hby d19_17) rfl kk)) ?_
        by_cases hcc8 : w3 = (own_b8 wc)
        · refine go_of (B := (s₁.setTop (mkF m 24 #[.val (.ref t), .val (.int wc), .val (.int (0 : Int32)), .val (.int (4 : Int32)), .val (.int (own_b8 wc)), .val (.int (3 : Int32))] [(.int (3 : Int32))]))) (fun _ kk => XS.icmpNo X0.here hx rfl (hb hby d19_19) rfl (teq hcc8).2 (XS.iload X0.here hx rfl (hb hby d19_22) rfl kk)) ?_
          refine go_end X0 (v := some (.int (3 : Int32))) (fun h => by rw [Bd.returns] at h; cases h) Bd.notSynchronized (by decide) (by decide) (Q := (Q_ioc_4 Z t wc w0 w1 w2 w3 k h0 n0)) ?_ (fun fs hr => own_retI X0 hx Bd.returns (hb hby d19_24) hr)
          unfold Q_ioc_4
          try rw [e0]
          exact ⟨_, rfl, iff_of_false (by decide) (by simp [own_hs, hcc2, hcc4, hcc6, hcc8]), N0, rfl⟩
        · refine go_of (B := (s₁.setTop (mkF m 31 #[.val (.ref t), .val (.int wc), .val (.int (0 : Int32)), .val (.int (4 : Int32)), .val (.int (own_b8 wc)), .val (.int (4 : Int32))] []))) (fun _ kk => XS.icmpYes X0.here hx rfl (pc0 := 19) (pc' := 25) rfl (hb hby d19_19) rfl (feq hcc8).2 (by decide) (by decide) (XS.iinc X0.here hx rfl (hb hby d19_25) rfl rfl (XS.goto X0.here hx rfl (pc0 := 28) (pc' := 7) rfl (hb hby d19_28) (by decide) (by decide) (XS.iload X0.here hx rfl (hb hby d19_7) rfl (XS.iloadN X0.here hx rfl (hb hby d19_9) rfl (XS.icmpYes X0.here hx rfl (pc0 := 10) (pc' := 31) rfl (hb hby d19_10) rfl (flt (by decide : ¬ ((4 : Int32) < (4 : Int32)))).2.1 (by decide) (by decide) kk)))))) ?_
          refine go_of (B := (s₁.setTop (mkF m 32 #[.val (.ref t), .val (.int wc), .val (.int (0 : Int32)), .val (.int (4 : Int32)), .val (.int (own_b8 wc)), .val (.int (4 : Int32))] [(.int (-1 : Int32))]))) (fun _ kk => XS.iconst X0.here hx rfl (hb hby d19_31) kk) ?_
          refine go_end X0 (v := some (.int (-1 : Int32))) (fun h => by rw [Bd.returns] at h; cases h) Bd.notSynchronized (by decide) (by decide) (Q := (Q_ioc_4 Z t wc w0 w1 w2 w3 k h0 n0)) ?_ (fun fs hr => own_retI X0 hx Bd.returns (hb hby d19_32) hr)
          unfold Q_ioc_4
          try rw [e0]
          exact ⟨_, rfl, iff_of_true (by decide) (by simp [own_hs, hcc2, hcc4, hcc6, hcc8]), N0, rfl⟩
def Q_lio_4 (Z : State) (t : Addr) (wc : Int32) (w0 : Int32) (w1 : Int32) (w2 : Int32) (w3 : Int32) (k : ClassId) (h0 : Heap) (n0 : Nat) (v : Option Value) (h : Heap) (L : List Loc) : Prop := ∃ r : Int32, v = some (.int r) ∧ (r < 0 ↔ own_hs (own_b8 wc) [w0, w1, w2, w3] = false) ∧ Fr n0 L ∧ h = h0
theorem ef_lio_4 (m : MethodId) (t : Addr) (wc : Int32)  : entryFrame m #[(.ref t), (.int wc), (.int (0 : Int32)), (.int (4 : Int32))] 4 = mkF m 0 #[.val (.ref t), .val (.int wc), .val (.int (0 : Int32)), .val (.int (4 : Int32))] [] := by first | (simp [entryFrame, mkF, argsToLocals, Value.category]; done) | rfl
theorem lio_4 (l : Launch) (Z : State) (a0 : Array Value) (hw : TW a0 Z) (ws : List Cond) (t : Addr) (wc : Int32) (w0 : Int32) (w1 : Int32) (w2 : Int32) (w3 : Int32) (k : ClassId) (h0 : Heap) (n0 : Nat) (Z0 : n0 ≤ h0.size) (V : Arv Z h0 t k .byte 4 [(.int w0), (.int w1), (.int w2), (.int w3)] (.int 0)) (hwc : ¬ wc < 0 ∧ ¬ (255 : Int32) < wc) :
    own_MF l Z MN13 jdk_43_method_22_code 4 (some .int) ws (own_R 1 0 0 17) #[(.ref t), (.int wc), (.int (0 : Int32)), (.int (4 : Int32))] h0 (Q_lio_4 Z t wc w0 w1 w2 w3 k h0 n0) := by
  have wd := @own_wd _ _ hw
  refine MetFree.of_bodySF (plainFor_of_name pn_java_lang_StringLatin1) hisR ?_
  intro p e s m args below meth c s₁ Bd hml0 hP hK
  obtain ⟨rfl, hZ, hh⟩ := hP
  have hx := Bd.exec
  have hby := Bd.bytes
  have hml : c.maxLocals = 4 := hml0
  have hown : s.vm.findClass "java/lang/StringLatin1" = some m.cls := findClass_of_methodNamed Bd.named
  have hnm := (name_of_methodNamed Bd.named Bd.method).1
  have X0 : Stand p l e (own_R 1 0 0 17) s m #[(.ref t), (.int wc), (.int (0 : Int32)), (.int (4 : Int32))] below meth c s₁ [] 0 0 := Stand.of_body Bd
  have e0 : s₁.heap = h0 := by rw [← hh, Bd.state]; rfl
  have N0 := Fr.nil n0
  refine go_of (A := s₁.setTop (entryFrame m #[(.ref t), (.int wc), (.int (0 : Int32)), (.int (4 : Int32))] 4)) (B := s₁.setTop (mkF m 0 #[.val (.ref t), .val (.int wc), .val (.int (0 : Int32)), .val (.int (4 : Int32))] [])) (fun _ kk' => castTop (ef_lio_4 m t wc) kk') ?_
  refine go_of (B := (s₁.setTop (mkF m 1 #[.val (.ref t), .val (.int wc), .val (.int (0 : Int32)), .val (.int (4 : Int32))] [(.int wc)]))) (fun _ kk => XS.iloadN X0.here hx rfl (hb hby d11_0) rfl kk) ?_
  obtain ⟨_, _, ⟨T1, L1, k1, n1⟩, -, X1, ⟨Lc1, hQ1, l1, y1, z1⟩, st1⟩ := Jvm.LawKit.callS X0 hx (y := MN12) hown (mvT hZ (wd 62 rfl)) (mvT hZ (wd 63 rfl)) (mvT hZ (wd 60 rfl)) (mvT hZ (wd 64 rfl)) (by decide) (backOf (W := 0) (cani l Z a0 hw [] wc h0 n0 (by omega) hwc) hZ (wd 64 rfl) (wd 60 rfl) (by decide) (by decide)) (g := (mkF m 1 #[.val (.ref t), .val (.int wc), .val (.int (0 : Int32)), .val (.int (4 : Int32))] [(.int wc)])) rfl (by rw [hml]; rfl) (argsL := [(.int wc)]) (rest := []) (lenOf pd__I_Z rfl) rfl (Nat.le_of_eq rfl) (hb hby d11_1) (fun _ _ => ⟨rfl, e0, (by decide : 0 + 0 ≤ _), (by decide : 0 + 0 ≤ _)⟩)
  dsimp only [Pt.U, Pt.locs, Pt.cells, Pt.slots] at X1 l1 y1 z1 st1 hQ1
  subst l1 y1 z1
  obtain ⟨rfl, N1q, e1⟩ := hQ1
  have N1 := Fr.app N0 N1q
  refine go_of (B := (T1.setTop (mkF m 4 #[.val (.ref t), .val (.int wc), .val (.int (0 : Int32)), .val (.int (4 : Int32))] [(.int (1 : Int32))]))) (st1) ?_
  refine go_of (B := (T1.setTop (mkF m 11 #[.val (.ref t), .val (.int wc), .val (.int (0 : Int32)), .val (.int (4 : Int32))] [(.int (0 : Int32)), (.int (0 : Int32))]))) (fun _ kk => XS.ifYes X1.here hx rfl (pc0 := 4) (pc' := 9) rfl (hb hby d11_4) rfl ((if0 _ _).trans (feq (by decide : ¬ ((1 : Int32) = (0 : Int32)))).2) (by decide) (by decide) (XS.iloadN X1.here hx rfl (hb hby d11_9) rfl (XS.iconst X1.here hx rfl (hb hby d11_10) kk))) ?_
  obtain ⟨_, _, ⟨T2, L2, k2, n2⟩, -, X2, ⟨Lc2, hQ2, l2, y2, z2⟩, st2⟩ := Jvm.LawKit.callS X1 hx (y := MN3) hown (mvT hZ (wd 65 rfl)) (mvT hZ (wd 66 rfl)) (mvT hZ (wd 67 rfl)) (mvT hZ (wd 68 rfl)) (by decide) (backOf (W := 0) (v_max l Z a0 hw [] (0 : Int32) (0 : Int32) (0 : Int32) h0 n0 (by omega) (by decide)) hZ (wd 68 rfl) (wd 67 rfl) (by decide) (by decide)) (g := (mkF m 11 #[.val (.ref t), .val (.int wc), .val (.int (0 : Int32)), .val (.int (4 : Int32))] [(.int (0 : Int32)), (.int (0 : Int32))])) rfl (by rw [hml]; rfl) (argsL := [(.int (0 : Int32)), (.int (0 : Int32))]) (rest := []) (lenOf pd__II_I rfl) rfl (Nat.le_of_eq rfl) (hb hby d11_11) (fun _ _ => ⟨rfl, e1, (by decide : 0 + 0 ≤ _), (by decide : 0 + 0 ≤ _)⟩)
  dsimp only [Pt.U, Pt.locs, Pt.cells, Pt.slots] at X2 l2 y2 z2 st2 hQ2
  subst l2 y2 z2
  obtain ⟨rfl, N2q, e2⟩ := hQ2
  have N2 := Fr.app N1 N2q
  refine go_of (B := (T2.setTop (mkF m 14 #[.val (.ref t), .val (.int wc), .val (.int (0 : Int32)), .val (.int (4 : Int32))] [(.int (0 : Int32))]))) (st2) ?_
  refine go_of (B := (T2.setTop (mkF m 17 #[.val (.ref t), .val (.int wc), .val (.int (0 : Int32)), .val (.int (4 : Int32))] [(.ref t), (.int (4 : Int32))]))) (fun _ kk => XS.istoreN X2.here hx rfl (hb hby d11_14) rfl rfl (XS.iloadN X2.here hx rfl (hb hby d11_15) rfl (XS.aloadN X2.here hx rfl (hb hby d11_16) rfl rfl kk))) ?_
  obtain ⟨cl3, Ar3, q3, Sz3, Nn3, Hh3, G3⟩ := id (V)
  have ln3 := len_of Sz3 Nn3
  refine go_of (B := (T2.setTop (mkF m 18 #[.val (.ref t), .val (.int wc), .val (.int (0 : Int32)), .val (.int (4 : Int32))] [(.int (4 : Int32)), (.int (4 : Int32))]))) (fun _ kk => X2.arraylength hx (by rw [e2]; exact Ar3.1) (State.isArrayOf_alike hZ.alike Ar3.2.1) (g := (mkF m 17 #[.val (.ref t), .val (.int wc), .val (.int (0 : Int32)), .val (.int (4 : Int32))] [(.ref t), (.int (4 : Int32))])) rfl rfl (hb hby d11_17) _ (by rw [ln3]; exact kk)) ?_
  obtain ⟨_, _, ⟨T4, L4, k4, n4⟩, -, X4, ⟨Lc4, hQ4, l4, y4, z4⟩, st4⟩ := Jvm.LawKit.callS X2 hx (y := MN4) hown (mvT hZ (wd 69 rfl)) (mvT hZ (wd 70 rfl)) (mvT hZ (wd 67 rfl)) (mvT hZ (wd 71 rfl)) (by decide) (backOf (W := 0) (v_min l Z a0 hw [] (4 : Int32) (4 : Int32) (4 : Int32) h0 n0 (by omega) (by decide)) hZ (wd 71 rfl) (wd 67 rfl) (by decide) (by decide)) (g := (mkF m 18 #[.val (.ref t), .val (.int wc), .val (.int (0 : Int32)), .val (.int (4 : Int32))] [(.int (4 : Int32)), (.int (4 : Int32))])) rfl (by rw [hml]; rfl) (argsL := [(.int (4 : Int32)), (.int (4 : Int32))]) (rest := []) (lenOf pd__II_I rfl) rfl (Nat.le_of_eq rfl) (hb hby d11_18) (fun _ _ => ⟨rfl, e2, (by decide : 0 + 0 ≤ _), (by decide : 0 + 0 ≤ _)⟩)
  dsimp only [Pt.U, Pt.locs, Pt.cells, Pt.slots] at X4 l4 y4 z4 st4 hQ4
  subst l4 y4 z4
  obtain ⟨rfl, N4q, e4⟩ := hQ4
  have N4 := Fr.app N2 N4q
  refine go_of (B := (T4.setTop (mkF m 21 #[.val (.ref t), .val (.int wc), .val (.int (0 : Int32)), .val (.int (4 : Int32))] [(.int (4 : Int32))]))) (st4) ?_
  refine go_of (B := (T4.setTop (mkF m 31 #[.val (.ref t), .val (.int wc), .val (.int (0 : Int32)), .val (.int (4 : Int32))] [(.int wc), (.ref t)]))) (fun _ kk => XS.istoreN X4.here hx rfl (hb hby d11_21) rfl rfl (XS.iloadN X4.here hx rfl (hb hby d11_22) rfl (XS.iloadN X4.here hx rfl (hb hby d11_23) rfl (XS.icmpYes X4.here hx rfl (pc0 := 24) (pc' := 29) rfl (hb hby d11_24) rfl (tlt (by decide : (0 : Int32) < (4 : Int32))).1 (by decide) (by decide) (XS.aloadN X4.here hx rfl (hb hby d11_29) rfl rfl (XS.iloadN X4.here hx rfl (hb hby d11_30) rfl kk)))))) ?_
  refine go_of (B := (T4.setTop (mkF m 33 #[.val (.ref t), .val (.int wc), .val (.int (0 : Int32)), .val (.int (4 : Int32))] [(.int (4 : Int32)), (.int (0 : Int32)), (.int wc), (.ref t)]))) (fun _ kk => XS.iloadN X4.here hx rfl (hb hby d11_31) rfl (XS.iloadN X4.here hx rfl (hb hby d11_32) rfl kk)) ?_
  obtain ⟨_, _, ⟨T5, L5, k5, n5⟩, -, X5, ⟨Lc5, hQ5, l5, y5, z5⟩, st5⟩ := Jvm.LawKit.callS X4 hx (y := MN14) hown (mvT hZ (wd 85 rfl)) (mvT hZ (wd 86 rfl)) (mvT hZ (wd 60 rfl)) (mvT hZ (wd 87 rfl)) (by decide) (backOf (W := 0) (ioc_4 l Z a0 hw [] t wc w0 w1 w2 w3 k h0 n0 (by omega) V) hZ (wd 87 rfl) (wd 60 rfl) (by decide) (by decide)) (g := (mkF m 33 #[.val (.ref t), .val (.int wc), .val (.int (0 : Int32)), .val (.int (4 : Int32))] [(.int (4 : Int32)), (.int (0 : Int32)), (.int wc), (.ref t)])) rfl (by rw [hml]; rfl) (argsL := [(.ref t), (.int wc), (.int (0 : Int32)), (.int (4 : Int32))]) (rest := []) (lenOf pd___BIII_I rfl) rfl (Nat.le_of_eq rfl) (hb hby d11_33) (fun _ _ => ⟨rfl, e4, (by decide : 0 + 0 ≤ _), (by decide : 0 + 0 ≤ _)⟩)
  dsimp only [Pt.U, Pt.locs, Pt.cells, Pt.slots] at X5 l5 y5 z5 st5 hQ5
  subst l5 y5 z5
  obtain ⟨r5, rfl, hr5, N5q, e5⟩ := hQ5
  have N5 := Fr.app N4 N5q
  refine go_of (B := (T5.setTop (mkF m 36 #[.val (.ref t), .val (.int wc), .val (.int (0 : Int32)), .val (.int (4 : Int32))] [(.int r5)]))) (st5) ?_
  refine go_end X5 (v := some (.int r5)) (fun h => by rw [Bd.returns] at h; cases h) Bd.notSynchronized (by decide) (by decide) (Q := (Q_lio_4 Z t wc w0 w1 w2 w3 k h0 n0)) ?_ (fun fs hr => own_retI X5 hx Bd.returns (hb hby d11_36) hr)
  unfold Q_lio_4
  try rw [e5]
  exact ⟨_, rfl, hr5, N5, rfl⟩
def Q_ucu_4 (Z : State) (t : Addr) (wc : Int32) (c0 : Int32) (c1 : Int32) (c2 : Int32) (c3 : Int32) (k : ClassId) (h0 : Heap) (n0 : Nat) (v : Option Value) (h : Heap) (L : List Loc) : Prop := ∃ r : Int32, v = some (.int r) ∧ (r < 0 ↔ own_hs wc [c0, c1, c2, c3] = false) ∧ Fr n0 L ∧ h = h0
theorem ef_ucu_4 (m : MethodId) (t : Addr) (wc : Int32)  : entryFrame m #[(.ref t), (.int wc), (.int (0 : Int32)), (.int (4 : Int32))] 5 = mkF m 0 #[.val (.ref t), .val (.int wc), .val (.int (0 : Int32)), .val (.int (4 : Int32)), .unset] [] := by first | (simp [entryFrame, mkF, argsToLocals, Value.category]; done) | rfl
theorem ucu_4 (l : Launch) (Z : State) (a0 : Array Value) (hw : TW a0 Z) (ws : List Cond) (t : Addr) (wc : Int32) (c0 : Int32) (c1 : Int32) (c2 : Int32) (c3 : Int32) (k : ClassId) (h0 : Heap) (n0 : Nat) (Z0 : n0 ≤ h0.size) (O : Old Z n0 h0) (SU : US Z) (V : Arv Z h0 t k .byte 8 [(.int (own_b0 c0)), (.int (own_b1 c0)), (.int (own_b0 c1)), (.int (own_b1 c1)), (.int (own_b0 c2)), (.int (own_b1 c2)), (.int (own_b0 c3)), (.int (own_b1 c3))] (.int 0)) (hc0 : ¬ c0 < 0 ∧ ¬ (65535 : Int32) < c0) (hc1 : ¬ c1 < 0 ∧ ¬ (65535 : Int32) < c1) (hc2 : ¬ c2 < 0 ∧ ¬ (65535 : Int32) < c2) (hc3 : ¬ c3 < 0 ∧ ¬ (65535 : Int32) < c3) :
    own_MF l Z MN22 jdk_52_method_48_code 5 (some .int) ws (own_R 1 0 0 13) #[(.ref t), (.int wc), (.int (0 : Int32)), (.int (4 : Int32))] h0 (Q_ucu_4 Z t wc c0 c1 c2 c3 k h0 n0) := by
  have wd := @own_wd _ _ hw
  refine MetFree.of_bodySF (plainFor_of_name pn_java_lang_StringUTF16) hisR ?_
  intro p e s m args below meth c s₁ Bd hml0 hP hK
  obtain ⟨rfl, hZ, hh⟩ := hP
  have hx := Bd.exec
  have hby := Bd.bytes
  have hml : c.maxLocals = 5 := hml0
  have hown : s.vm.findClass "java/lang/StringUTF16" = some m.cls := findClass_of_methodNamed Bd.named
  have hnm := (name_of_methodNamed Bd.named Bd.method).1
  have X0 : Stand p l e (own_R 1 0 0 13) s m #[(.ref t), (.int wc), (.int (0 : Int32)), (.int (4 : Int32))] below meth c s₁ [] 0 0 := Stand.of_body Bd
  have e0 : s₁.heap = h0 := by rw [← hh, Bd.state]; rfl
  have N0 := Fr.nil n0
  refine go_of (A := s₁.setTop (entryFrame m #[(.ref t), (.int wc), (.int (0 : Int32)), (.int (4 : Int32))] 5)) (B := s₁.setTop (mkF m 0 #[.val (.ref t), .val (.int wc), .val (.int (0 : Int32)), .val (.int (4 : Int32)), .unset] [])) (fun _ kk' => castTop (ef_ucu_4 m t wc) kk') ?_
  refine go_of (B := (s₁.setTop (mkF m 10 #[.val (.ref t), .val (.int wc), .val (.int (0 : Int32)), .val (.int (4 : Int32)), .val (.int (0 : Int32))] [(.ref t)]))) (fun _ kk => XS.iloadN X0.here hx rfl (hb hby d31_0) rfl (XS.istore X0.here hx rfl (hb hby d31_1) rfl rfl (XS.iload X0.here hx rfl (hb hby d31_3) rfl (XS.iloadN X0.here hx rfl (hb hby d31_5) rfl (XS.icmpNo X0.here hx rfl (hb hby d31_6) rfl (tlt (by decide : (0 : Int32) < (4 : Int32))).2.1 (XS.aloadN X0.here hx rfl (hb hby d31_9) rfl rfl kk)))))) ?_
  refine go_of (B := (s₁.setTop (mkF m 12 #[.val (.ref t), .val (.int wc), .val (.int (0 : Int32)), .val (.int (4 : Int32)), .val (.int (0 : Int32))] [(.int (0 : Int32)), (.ref t)]))) (fun _ kk => XS.iload X0.here hx rfl (hb hby d31_10) rfl kk) ?_
  obtain ⟨_, _, ⟨T1, L1, k1, n1⟩, -, X1, ⟨Lc1, hQ1, l1, y1, z1⟩, st1⟩ := Jvm.LawKit.callS X0 hx (y := MN19) hown (mvT hZ (wd 104 rfl)) (mvT hZ (wd 105 rfl)) (mvT hZ (wd 77 rfl)) (mvT hZ (wd 106 rfl)) (by decide) (backOf (W := 0) (u_get l Z a0 hw [] t (0 : Int32) (8 : Int32) _ c0 k h0 n0 (by omega) O SU V (by decide) (by decide) rfl rfl hc0) hZ (wd 106 rfl) (wd 77 rfl) (by decide) (by decide)) (g := (mkF m 12 #[.val (.ref t), .val (.int wc), .val (.int (0 : Int32)), .val (.int (4 : Int32)), .val (.int (0 : Int32))] [(.int (0 : Int32)), (.ref t)])) rfl (by rw [hml]; rfl) (argsL := [(.ref t), (.int (0 : Int32))]) (rest := []) (lenOf pd___BI_C rfl) rfl (Nat.le_of_eq rfl) (hb hby d31_12) (fun _ _ => ⟨rfl, e0, (by decide : 0 + 0 ≤ _), (by decide : 0 + 0 ≤ _)⟩)
  dsimp only [Pt.U, Pt.locs, Pt.cells, Pt.slots] at X1 l1 y1 z1 st1 hQ1
  subst l1 y1 z1
  obtain ⟨rfl, N1q, e1⟩ := hQ1
  have N1 := Fr.app N0 N1q
  refine go_of (B := (T1.setTop (mkF m 15 #[.val (.ref t), .val (.int wc), .val (.int (0 : Int32)), .val (.int (4 : Int32)), .val (.int (0 : Int32))] [(.int c0)]))) (st1) ?_
  refine go_of (B := (T1.setTop (mkF m 16 #[.val (.ref t), .val (.int wc), .val (.int (0 : Int32)), .val (.int (4 : Int32)), .val (.int (0 : Int32))] [(.int wc), (.int c0)]))) (fun _ kk => XS.iloadN X1.here hx rfl (hb hby d31_15) rfl kk) ?_
  by_cases hcc2 : c0 = wc
  · refine go_of (B := (T1.setTop (mkF m 21 #[.val (.ref t), .val (.int wc), .val (.int (0 : Int32)), .val (.int (4 : Int32)), .val (.int (0 : Int32))] [(.int (0 : Int32))]))) (fun _ kk => XS.icmpNo X1.here hx rfl (hb hby d31_16) rfl (teq hcc2).2 (XS.iload X1.here hx rfl (hb hby d31_19) rfl kk)) ?_
    refine go_end X1 (v := some (.int (0 : Int32))) (fun h => by rw [Bd.returns] at h; cases h) Bd.notSynchronized (by decide) (by decide) (Q := (Q_ucu_4 Z t wc c0 c1 c2 c3 k h0 n0)) ?_ (fun fs hr => own_retI X1 hx Bd.returns (hb hby d31_21) hr)
    unfold Q_ucu_4
    try rw [e1]
    exact ⟨_, rfl, iff_of_false (by decide) (by simp [own_hs, hcc2]), N1, rfl⟩
  · refine go_of (B := (T1.setTop (mkF m 9 #[.val (.ref t), .val (.int wc), .val (.int (0 : Int32)), .val (.int (4 : Int32)), .val (.int (1 : Int32))] []))) (fun _ kk => XS.icmpYes X1.here hx rfl (pc0 := 16) (pc' := 22) rfl (hb hby d31_16) rfl (feq hcc2).2 (by decide) (by decide) (XS.iinc X1.here hx rfl (hb hby d31_22) rfl rfl (XS.goto X1.here hx rfl (pc0 := 25) (pc' := 3) rfl (hb hby d31_25) (by decide) (by decide) (XS.iload X1.here hx rfl (hb hby d31_3) rfl (XS.iloadN X1.here hx rfl (hb hby d31_5) rfl (XS.icmpNo X1.here hx rfl (hb hby d31_6) rfl (tlt (by decide : (1 : Int32) < (4 : Int32))).2.1 kk)))))) ?_
    refine go_of (B := (T1.setTop (mkF m 12 #[.val (.ref t), .val (.int wc), .val (.int (0 : Int32)), .val (.int (4 : Int32)), .val (.int (1 : Int32))] [(.int (1 : Int32)), (.ref t)]))) (fun _ kk => XS.aloadN X1.here hx rfl (hb hby d31_9) rfl rfl (XS.iload X1.here hx rfl (hb hby d31_10) rfl kk)) ?_
    obtain ⟨_, _, ⟨T3, L3, k3, n3⟩, -, X3, ⟨Lc3, hQ3, l3, y3, z3⟩, st3⟩ := Jvm.LawKit.callS X1 hx (y := MN19) hown (mvT hZ (wd 104 rfl)) (mvT hZ (wd 105 rfl)) (mvT hZ (wd 77 rfl)) (mvT hZ (wd 106 rfl)) (by decide) (backOf (W := 0) (u_get l Z a0 hw [] t (1 : Int32) (8 : Int32) _ c1 k h0 n0 (by omega) O SU V (by decide) (by decide) rfl rfl hc1) hZ (wd 106 rfl) (wd 77 rfl) (by decide) (by decide)) (g := (mkF m 12 #[.val (.ref t), .val (.int wc), .val (.int (0 : Int32)), .val (.int (4 : Int32)), .val (.int (1 : Int32))] [(.int (1 : Int32)), (.ref t)])) rfl (by rw [hml]; rfl) (argsL := [(.ref t), (.int (1 : Int32))]) (rest := []) (lenOf pd___BI_C rfl) rfl (Nat.le_of_eq rfl) (hb hby d31_12) (fun _ _ => ⟨rfl, e1, (by decide : 0 + 0 ≤ _), (by decide : 0 + 0 ≤ _)⟩)
    dsimp only [Pt.U, Pt.locs, Pt.cells, Pt.slots] at X3 l3 y3 z3 st3 hQ3
    subst l3 y3 z3
    obtain ⟨rfl, N3q, e3⟩ := hQ3
    have N3 := Fr.app N1 N3q
    refine go_of (B := (T3.setTop (mkF m 15 #[.val (.ref t), .val (.int wc), .val (.int (0 : Int32)), .val (.int (4 : Int32)), .val (.int (1 : Int32))] [(.int c1)]))) (st3) ?_
    refine go_of (B := (T3.setTop (mkF m 16 #[.val (.ref t), .val (.int wc), .val (.int (0 : Int32)), .val (.int (4 : Int32)), .val (.int (1 : Int32))] [(.int wc), (.int c1)]))) (fun _ kk => XS.iloadN X3.here hx rfl (hb hby d31_15) rfl kk) ?_
    by_cases hcc4 : c1 = wc
    · refine go_of (B := (T3.setTop (mkF m 21 #[.val (.ref t), .val (.int wc), .val (.int (0 : Int32)), .val (.int (4 : Int32)), .val (.int (1 : Int32))] [(.int (1 : Int32))]))) (fun _ kk => XS.icmpNo X3.here hx rfl (hb hby d31_16) rfl (teq hcc4).2 (XS.iload X3.here hx rfl (hb hby d31_19) rfl kk)) ?_
      refine go_end X3 (v := some (.int (1 : Int32))) (fun h => by rw [Bd.returns] at h; cases h) Bd.notSynchronized (by decide) (by decide) (Q := (Q_ucu_4 Z t wc c0 c1 c2 c3 k h0 n0)) ?_ (fun fs hr => own_retI X3 hx Bd.returns (hb hby d31_21) hr)
      unfold Q_ucu_4
      try rw [e3]
      exact ⟨_, rfl, iff_of_false (by decide) (by simp [own_hs, hcc2, hcc4]), N3, rfl⟩
    · refine go_of (B := (T3.setTop (mkF m 9 #[.val (.ref t), .val (.int wc), .val (.int (0 : Int32)), .val (.int (4 : Int32)), .val (.int (2 : Int32))] []))) (fun _ kk => XS.icmpYes X3.here hx rfl (pc0 := 16) (pc' := 22) rfl (hb hby d31_16) rfl (feq hcc4).2 (by decide) (by decide) (XS.iinc X3.here hx rfl (hb hby d31_22) rfl rfl (XS.goto X3.here hx rfl (pc0 := 25) (pc' := 3) rfl (hb hby d31_25) (by decide) (by decide) (XS.iload X3.here hx rfl (hb hby d31_3) rfl (XS.iloadN X3.here hx rfl (hb hby d31_5) rfl (XS.icmpNo X3.here hx rfl (hb hby d31_6) rfl (tlt (by decide : (2 : Int32) < (4 : Int32))).2.1 kk)))))) ?_
      refine go_of (B := (T3.setTop (mkF m 12 #[.val (.ref t), .val (.int wc), .val (.int (0 : Int32)), .val (.int (4 : Int32)), .val (.int (2 : Int32))] [(.int (2 : Int32)), (.ref t)]))) (fun _ kk => XS.aloadN X3.here hx rfl (hb hby d31_9) rfl rfl (XS.iload X3.here hx rfl (hb hby d31_10) rfl kk)) ?_
      obtain ⟨_, _, ⟨T5, L5, k5, n5⟩, -, X5, ⟨Lc5, hQ5, l5, y5, z5⟩, st5⟩ := Jvm.LawKit.callS X3 hx (y := MN19) hown (mvT hZ (wd 104 rfl)) (mvT hZ (wd 105 rfl)) (mvT hZ (wd 77 rfl)) (mvT hZ (wd 106 rfl)) (by decide) (backOf (W := 0) (u_get l Z a0 hw [] t (2 : Int32) (8 : Int32) _ c2 k h0 n0 (by omega) O SU V (by decide) (by decide) rfl rfl hc2) hZ (wd 106 rfl) (wd 77 rfl) (by decide) (by decide)) (g := (mkF m 12 #[.val (.ref t), .val (.int wc), .val (.int (0 : Int32)), .val (.int (4 : Int32)), .val (.int (2 : Int32))] [(.int (2 : Int32)), (.ref t)])) rfl (by rw [hml]; rfl) (argsL := [(.ref t), (.int (2 : Int32))]) (rest := []) (lenOf pd___BI_C rfl) rfl (Nat.le_of_eq rfl) (hb hby d31_12) (fun _ _ => ⟨rfl, e3, (by decide : 0 + 0 ≤ _), (by decide : 0 + 0 ≤ _)⟩)
      dsimp only [Pt.U, Pt.locs, Pt.cells, Pt.slots] at X5 l5 y5 z5 st5 hQ5
      subst l5 y5 z5
      obtain ⟨rfl, N5q, e5⟩ := hQ5
      have N5 := Fr.app N3 N5q
      refine go_of (B := (T5.setTop (mkF m 15 #[.val (.ref t), .val (.int wc), .val (.int (0 : Int32)), .val (.int (4 : Int32)), .val (.int (2 : Int32))] [(.int c2)]))) (st5) ?_
      refine go_of (B := (T5.setTop (mkF m 16 #[.val (.ref t), .val (.int wc), .val (.int (0 : Int32)), .val (.int (4 : Int32)), .val (.int (2 : Int32))] [(.int wc), (.int c2)]))) (fun _ kk => XS.iloadN X5.here hx rfl (hb hby d31_15) rfl kk) ?_
      by_cases hcc6 : c2 = wc
      · refine go_of (B := (T5.setTop (mkF m 21 #[.val (.ref t), .val (.int wc), .val (.int (0 : Int32)), .val (.int (4 : Int32)), .val (.int (2 : Int32))] [(.int (2 : Int32))]))) (fun _ kk => XS.icmpNo X5.here hx rfl (hb hby d31_16) rfl (teq hcc6).2 (XS.iload X5.here hx rfl (hb hby d31_19) rfl kk)) ?_
        refine go_end X5 (v := some (.int (2 : Int32))) (fun h => by rw [Bd.returns] at h; cases h) Bd.notSynchronized (by decide) (by decide) (Q := (Q_ucu_4 Z t wc c0 c1 c2 c3 k h0 n0)) ?_ (fun fs hr => own_retI X5 hx Bd.returns (hb hby d31_21) hr)
        unfold Q_ucu_4
        try rw [e5]
        exact ⟨_, rfl, iff_of_false (by decide) (by simp [own_hs, hcc2, hcc4, hcc6]), N5, rfl⟩
      · refine go_of (B := (T5.setTop (mkF m 9 #[.val (.ref t), .val (.int wc), .val (.int (0 : Int32)), .val (.int (4 : Int32)), .val (.int (3 : Int32))] []))) (fun _ kk => XS.icmpYes X5.here hx rfl (pc0 := 16) (pc' := 22) rfl (hb hby d31_16) rfl (feq hcc6).2 (by decide) (by decide) (XS.iinc X5.here hx rfl (hb hby d31_22) rfl rfl (XS.goto X5.here hx rfl (pc0 := 25) (pc' := 3) rfl (hb hby d31_25) (by decide) (by decide) (XS.iload X5.here hx rfl (hb hby d31_3) rfl (XS.iloadN X5.here hx rfl (hb hby d31_5) rfl (XS.icmpNo X5.here hx rfl (hb hby d31_6) rfl (tlt (by decide : (3 : Int32) < (4 : Int32))).2.1 kk)))))) ?_
        refine go_of (B := (T5.setTop (mkF m 12 #[.val (.ref t), .val (.int wc), .val (.int (0 : Int32)), .val (.int (4 : Int32)), .val (.int (3 : Int32))] [(.int (3 : Int32)), (.ref t)]))) (fun _ kk => XS.aloadN X5.here hx rfl (hb hby d31_9) rfl rfl (XS.iload X5.here hx rfl (hb hby d31_10) rfl kk)) ?_
        obtain ⟨_, _, ⟨T7, L7, k7, n7⟩, -, X7, ⟨Lc7, hQ7, l7, y7, z7⟩, st7⟩ := Jvm.LawKit.callS X5 hx (y := MN19) hown (mvT hZ (wd 104 rfl)) (mvT hZ (wd 105 rfl)) (mvT hZ (wd 77 rfl)) (mvT hZ (wd 106 rfl)) (by decide) (backOf (W := 0) (u_get l Z a0 hw [] t (3 : Int32) (8 : Int32) _ c3 k h0 n0 (by omega) O SU V (by decide) (by decide) rfl rfl hc3) hZ (wd 106 rfl) (wd 77 rfl) (by decide) (by decide)) (g := (mkF m 12 #[.val (.ref t), .val (.int wc), .val (.int (0 : Int32)), .val (.int (4 : Int32)), .val (.int (3 : Int32))] [(.int (3 : Int32)), (.ref t)])) rfl (by rw [hml]; rfl) (argsL := [(.ref t), (.int (3 : Int32))]) (rest := []) (lenOf pd___BI_C rfl) rfl (Nat.le_of_eq rfl) (hb hby d31_12) (fun _ _ => ⟨rfl, e5, (by decide : 0 + 0 ≤ _), (by decide : 0 + 0 ≤ _)⟩)
        dsimp only [Pt.U, Pt.locs, Pt.cells, Pt.slots] at X7 l7 y7 z7 st7 hQ7
        subst l7 y7 z7
        obtain ⟨rfl, N7q, e7⟩ := hQ7
        have N7 := Fr.app N5 N7q
        refine go_of (B := (T7.setTop (mkF m 15 #[.val (.ref t), .val (.int wc), .val (.int (0 : Int32)), .val (.int (4 : Int32)), .val (.int (3 : Int32))] [(.int c3)]))) (st7) ?_
        refine go_of (B := (T7.setTop (mkF m 16 #[.val (.ref t), .val (.int wc), .val (.int (0 : Int32)), .val (.int (4 : Int32)), .val (.int (3 : Int32))] [(.int wc), (.int c3)]))) (fun _ kk => XS.iloadN X7.here hx rfl (hb hby d31_15) rfl kk) ?_
        by_cases hcc8 : c3 = wc
        · refine go_of (B := (T7.setTop (mkF m 21 #[.val (.ref t), .val (.int wc), .val (.int (0 : Int32)), .val (.int (4 : Int32)), .val (.int (3 : Int32))] [(.int (3 : Int32))]))) (fun _ kk => XS.icmpNo X7.here hx rfl (hb hby d31_16) rfl (teq hcc8).2 (XS.iload X7.here hx rfl (hb hby d31_19) rfl kk)) ?_
          refine go_end X7 (v := some (.int (3 : Int32))) (fun h => by rw [Bd.returns] at h; cases h) Bd.notSynchronized (by decide) (by decide) (Q := (Q_ucu_4 Z t wc c0 c1 c2 c3 k h0 n0)) ?_ (fun fs hr => own_retI X7 hx Bd.returns (hb hby d31_21) hr)
          unfold Q_ucu_4
          try rw [e7]
          exact ⟨_, rfl, iff_of_false (by decide) (by simp [own_hs, hcc2, hcc4, hcc6, hcc8]), N7, rfl⟩
        · refine go_of (B := (T7.setTop (mkF m 28 #[.val (.ref t), .val (.int wc), .val (.int (0 : Int32)), .val (.int (4 : Int32)), .val (.int (4 : Int32))] []))) (fun _ kk => XS.icmpYes X7.here hx rfl (pc0 := 16) (pc' := 22) rfl (hb hby d31_16) rfl (feq hcc8).2 (by decide) (by decide) (XS.iinc X7.here hx rfl (hb hby d31_22) rfl rfl (XS.goto X7.here hx rfl (pc0 := 25) (pc' := 3) rfl (hb hby d31_25) (by decide) (by decide) (XS.iload X7.here hx rfl (hb hby d31_3) rfl (XS.iloadN X7.here hx rfl (hb hby d31_5) rfl (XS.icmpYes X7.here hx rfl (pc0 := 6) (pc' := 28) rfl (hb hby d31_6) rfl (flt (by decide : ¬ ((4 : Int32) < (4 : Int32)))).2.1 (by decide) (by decide) kk)))))) ?_
          refine go_of (B := (T7.setTop (mkF m 29 #[.val (.ref t), .val (.int wc), .val (.int (0 : Int32)), .val (.int (4 : Int32)), .val (.int (4 : Int32))] [(.int (-1 : Int32))]))) (fun _ kk => XS.iconst X7.here hx rfl (hb hby d31_28) kk) ?_
          refine go_end X7 (v := some (.int (-1 : Int32))) (fun h => by rw [Bd.returns] at h; cases h) Bd.notSynchronized (by decide) (by decide) (Q := (Q_ucu_4 Z t wc c0 c1 c2 c3 k h0 n0)) ?_ (fun fs hr => own_retI X7 hx Bd.returns (hb hby d31_29) hr)
          unfold Q_ucu_4
          try rw [e7]
          exact ⟨_, rfl, iff_of_true (by decide) (by simp [own_hs, hcc2, hcc4, hcc6, hcc8]), N7, rfl⟩
def Q_uic_4 (Z : State) (t : Addr) (wc : Int32) (c0 : Int32) (c1 : Int32) (c2 : Int32) (c3 : Int32) (k : ClassId) (gF : Value) (h0 : Heap) (n0 : Nat) (v : Option Value) (h : Heap) (L : List Loc) : Prop := ∃ r : Int32, v = some (.int r) ∧ (r < 0 ↔ own_hs wc [c0, c1, c2, c3] = false) ∧ Fr n0 L ∧ h = h0
theorem ef_uic_4 (m : MethodId) (t : Addr) (wc : Int32)  : entryFrame m #[(.ref t), (.int wc), (.int (0 : Int32)), (.int (4 : Int32))] 4 = mkF m 0 #[.val (.ref t), .val (.int wc), .val (.int (0 : Int32)), .val (.int (4 : Int32))] [] := by first | (simp [entryFrame, mkF, argsToLocals, Value.category]; done) | rfl
theorem uic_4 (l : Launch) (Z : State) (a0 : Array Value) (hw : TW a0 Z) (ws : List Cond) (t : Addr) (wc : Int32) (c0 : Int32) (c1 : Int32) (c2 : Int32) (c3 : Int32) (k : ClassId) (gF : Value) (h0 : Heap) (n0 : Nat) (Z0 : n0 ≤ h0.size) (O : Old Z n0 h0) (SU : US Z) (V : Arv Z h0 t k .byte 8 [(.int (own_b0 c0)), (.int (own_b1 c0)), (.int (own_b0 c1)), (.int (own_b1 c1)), (.int (own_b0 c2)), (.int (own_b1 c2)), (.int (own_b0 c3)), (.int (own_b1 c3))] (.int 0)) (hc0 : ¬ c0 < 0 ∧ ¬ (65535 : Int32) < c0) (hc1 : ¬ c1 < 0 ∧ ¬ (65535 : Int32) < c1) (hc2 : ¬ c2 < 0 ∧ ¬ (65535 : Int32) < c2) (hc3 : ¬ c3 < 0 ∧ ¬ (65535 : Int32) < c3) (SF : Sta Z Z.heap "jdk/internal/util/Preconditions" "SIOOBE_FORMATTER" "Ljava/util/function/BiFunction;" gF) (rgF : gF.isRef = true) :
    own_MF l Z MN21 jdk_52_method_47_code 4 (some .int) ws (own_R 3 0 0 43) #[(.ref t), (.int wc), (.int (0 : Int32)), (.int (4 : Int32))] h0 (Q_uic_4 Z t wc c0 c1 c2 c3 k gF h0 n0) := by
  have wd := @own_wd _ _ hw
  refine MetFree.of_bodySF (plainFor_of_name pn_java_lang_StringUTF16) hisR ?_
  intro p e s m args below meth c s₁ Bd hml0 hP hK
  obtain ⟨rfl, hZ, hh⟩ := hP
  have hx := Bd.exec
  have hby := Bd.bytes
  have hml : c.maxLocals = 4 := hml0
  have hown : s.vm.findClass "java/lang/StringUTF16" = some m.cls := findClass_of_methodNamed Bd.named
  have hnm := (name_of_methodNamed Bd.named Bd.method).1
  have X0 : Stand p l e (own_R 3 0 0 43) s m #[(.ref t), (.int wc), (.int (0 : Int32)), (.int (4 : Int32))] below meth c s₁ [] 0 0 := Stand.of_body Bd
  have e0 : s₁.heap = h0 := by rw [← hh, Bd.state]; rfl
  have N0 := Fr.nil n0
  refine go_of (A := s₁.setTop (entryFrame m #[(.ref t), (.int wc), (.int (0 : Int32)), (.int (4 : Int32))] 4)) (B := s₁.setTop (mkF m 0 #[.val (.ref t), .val (.int wc), .val (.int (0 : Int32)), .val (.int (4 : Int32))] [])) (fun _ kk' => castTop (ef_uic_4 m t wc) kk') ?_
  refine go_of (B := (s₁.setTop (mkF m 3 #[.val (.ref t), .val (.int wc), .val (.int (0 : Int32)), .val (.int (4 : Int32))] [(.ref t), (.int (4 : Int32)), (.int (0 : Int32))]))) (fun _ kk => XS.iloadN X0.here hx rfl (hb hby d26_0) rfl (XS.iloadN X0.here hx rfl (hb hby d26_1) rfl (XS.aloadN X0.here hx rfl (hb hby d26_2) rfl rfl kk))) ?_
  obtain ⟨_, _, ⟨T1, L1, k1, n1⟩, -, X1, ⟨Lc1, hQ1, l1, y1, z1⟩, st1⟩ := Jvm.LawKit.callS X0 hx (y := MN15) hown (mvT hZ (wd 116 rfl)) (mvT hZ (wd 117 rfl)) (mvT hZ (wd 77 rfl)) (mvT hZ (wd 118 rfl)) (by decide) (backOf (W := 0) (ucbb l Z a0 hw [] (4 : Int32) t (8 : Int32) k _ gF h0 n0 (by omega) O SF rgF V (by decide) (by decide)) hZ (wd 118 rfl) (wd 77 rfl) (by decide) (by decide)) (g := (mkF m 3 #[.val (.ref t), .val (.int wc), .val (.int (0 : Int32)), .val (.int (4 : Int32))] [(.ref t), (.int (4 : Int32)), (.int (0 : Int32))])) rfl (by rw [hml]; rfl) (argsL := [(.int (0 : Int32)), (.int (4 : Int32)), (.ref t)]) (rest := []) (lenOf pd__II_B_V rfl) rfl (Nat.le_of_eq rfl) (hb hby d26_3) (fun _ _ => ⟨rfl, e0, (by decide : 0 + 0 ≤ _), (by decide : 0 + 0 ≤ _)⟩)
  dsimp only [Pt.U, Pt.locs, Pt.cells, Pt.slots] at X1 l1 y1 z1 st1 hQ1
  subst l1 y1 z1
  obtain ⟨rfl, N1q, e1⟩ := hQ1
  have N1 := Fr.app N0 N1q
  refine go_of (B := (T1.setTop (mkF m 6 #[.val (.ref t), .val (.int wc), .val (.int (0 : Int32)), .val (.int (4 : Int32))] []))) (st1) ?_
  refine go_of (B := (T1.setTop (mkF m 10 #[.val (.ref t), .val (.int wc), .val (.int (0 : Int32)), .val (.int (4 : Int32))] [(.int (4 : Int32)), (.int (0 : Int32)), (.int wc), (.ref t)]))) (fun _ kk => XS.aloadN X1.here hx rfl (hb hby d26_6) rfl rfl (XS.iloadN X1.here hx rfl (hb hby d26_7) rfl (XS.iloadN X1.here hx rfl (hb hby d26_8) rfl (XS.iloadN X1.here hx rfl (hb hby d26_9) rfl kk)))) ?_
  obtain ⟨_, _, ⟨T2, L2, k2, n2⟩, -, X2, ⟨Lc2, hQ2, l2, y2, z2⟩, st2⟩ := Jvm.LawKit.callS X1 hx (y := MN22) hown (mvT hZ (wd 130 rfl)) (mvT hZ (wd 131 rfl)) (mvT hZ (wd 77 rfl)) (mvT hZ (wd 132 rfl)) (by decide) (backOf (W := 0) (ucu_4 l Z a0 hw [] t wc c0 c1 c2 c3 k h0 n0 (by omega) O SU V hc0 hc1 hc2 hc3) hZ (wd 132 rfl) (wd 77 rfl) (by decide) (by decide)) (g := (mkF m 10 #[.val (.ref t), .val (.int wc), .val (.int (0 : Int32)), .val (.int (4 : Int32))] [(.int (4 : Int32)), (.int (0 : Int32)), (.int wc), (.ref t)])) rfl (by rw [hml]; rfl) (argsL := [(.ref t), (.int wc), (.int (0 : Int32)), (.int (4 : Int32))]) (rest := []) (lenOf pd___BIII_I rfl) rfl (Nat.le_of_eq rfl) (hb hby d26_10) (fun _ _ => ⟨rfl, e1, (by decide : 0 + 0 ≤ _), (by decide : 0 + 0 ≤ _)⟩)
  dsimp only [Pt.U, Pt.locs, Pt.cells, Pt.slots] at X2 l2 y2 z2 st2 hQ2
  subst l2 y2 z2
  obtain ⟨r2, rfl, hr2, N2q, e2⟩ := hQ2
  have N2 := Fr.app N1 N2q
  refine go_of (B := (T2.setTop (mkF m 13 #[.val (.ref t), .val (.int wc), .val (.int (0 : Int32)), .val (.int (4 : Int32))] [(.int r2)]))) (st2) ?_
  refine go_end X2 (v := some (.int r2)) (fun h => by rw [Bd.returns] at h; cases h) Bd.notSynchronized (by decide) (by decide) (Q := (Q_uic_4 Z t wc c0 c1 c2 c3 k gF h0 n0)) ?_ (fun fs hr => own_retI X2 hx Bd.returns (hb hby d26_13) hr)
  unfold Q_uic_4
  try rw [e2]
  exact ⟨_, rfl, hr2, N2, rfl⟩
def Q_uio_4 (Z : State) (t : Addr) (wc : Int32) (c0 : Int32) (c1 : Int32) (c2 : Int32) (c3 : Int32) (k : ClassId) (gF : Value) (h0 : Heap) (n0 : Nat) (v : Option Value) (h : Heap) (L : List Loc) : Prop := ∃ r : Int32, v = some (.int r) ∧ (r < 0 ↔ own_hs wc [c0, c1, c2, c3] = false) ∧ Fr n0 L ∧ h = h0
theorem ef_uio_4 (m : MethodId) (t : Addr) (wc : Int32)  : entryFrame m #[(.ref t), (.int wc), (.int (0 : Int32)), (.int (4 : Int32))] 4 = mkF m 0 #[.val (.ref t), .val (.int wc), .val (.int (0 : Int32)), .val (.int (4 : Int32))] [] := by first | (simp [entryFrame, mkF, argsToLocals, Value.category]; done) | rfl
theorem uio_4 (l : Launch) (Z : State) (a0 : Array Value) (hw : TW a0 Z) (ws : List Cond) (t : Addr) (wc : Int32) (c0 : Int32) (c1 : Int32) (c2 : Int32) (c3 : Int32) (k : ClassId) (gF : Value) (h0 : Heap) (n0 : Nat) (Z0 : n0 ≤ h0.size) (O : Old Z n0 h0) (SU : US Z) (V : Arv Z h0 t k .byte 8 [(.int (own_b0 c0)), (.int (own_b1 c0)), (.int (own_b0 c1)), (.int (own_b1 c1)), (.int (own_b0 c2)), (.int (own_b1 c2)), (.int (own_b0 c3)), (.int (own_b1 c3))] (.int 0)) (hc0 : ¬ c0 < 0 ∧ ¬ (65535 : Int32) < c0) (hc1 : ¬ c1 < 0 ∧ ¬ (65535 : Int32) < c1) (hc2 : ¬ c2 < 0 ∧ ¬ (65535 : Int32) < c2) (hc3 : ¬ c3 < 0 ∧ ¬ (65535 : Int32) < c3) (SF : Sta Z Z.heap "jdk/internal/util/Preconditions" "SIOOBE_FORMATTER" "Ljava/util/function/BiFunction;" gF) (rgF : gF.isRef = true) (hwc : ¬ wc < 0 ∧ ¬ (255 : Int32) < wc) :
    own_MF l Z MN20 jdk_52_method_40_code 4 (some .int) ws (own_R 4 0 0 58) #[(.ref t), (.int wc), (.int (0 : Int32)), (.int (4 : Int32))] h0 (Q_uio_4 Z t wc c0 c1 c2 c3 k gF h0 n0) := by
  have wd := @own_wd _ _ hw
  refine MetFree.of_bodySF (plainFor_of_name pn_java_lang_StringUTF16) hisR ?_
  intro p e s m args below meth c s₁ Bd hml0 hP hK
  obtain ⟨rfl, hZ, hh⟩ := hP
  have hx := Bd.exec
  have hby := Bd.bytes
  have hml : c.maxLocals = 4 := hml0
  have hown : s.vm.findClass "java/lang/StringUTF16" = some m.cls := findClass_of_methodNamed Bd.named
  have hnm := (name_of_methodNamed Bd.named Bd.method).1
  have X0 : Stand p l e (own_R 4 0 0 58) s m #[(.ref t), (.int wc), (.int (0 : Int32)), (.int (4 : Int32))] below meth c s₁ [] 0 0 := Stand.of_body Bd
  have e0 : s₁.heap = h0 := by rw [← hh, Bd.state]; rfl
  have N0 := Fr.nil n0
  refine go_of (A := s₁.setTop (entryFrame m #[(.ref t), (.int wc), (.int (0 : Int32)), (.int (4 : Int32))] 4)) (B := s₁.setTop (mkF m 0 #[.val (.ref t), .val (.int wc), .val (.int (0 : Int32)), .val (.int (4 : Int32))] [])) (fun _ kk' => castTop (ef_uio_4 m t wc) kk') ?_
  refine go_of (B := (s₁.setTop (mkF m 2 #[.val (.ref t), .val (.int wc), .val (.int (0 : Int32)), .val (.int (4 : Int32))] [(.int (0 : Int32)), (.int (0 : Int32))]))) (fun _ kk => XS.iloadN X0.here hx rfl (hb hby d25_0) rfl (XS.iconst X0.here hx rfl (hb hby d25_1) kk)) ?_
  obtain ⟨_, _, ⟨T1, L1, k1, n1⟩, -, X1, ⟨Lc1, hQ1, l1, y1, z1⟩, st1⟩ := Jvm.LawKit.callS X0 hx (y := MN3) hown (mvT hZ (wd 110 rfl)) (mvT hZ (wd 66 rfl)) (mvT hZ (wd 67 rfl)) (mvT hZ (wd 68 rfl)) (by decide) (backOf (W := 0) (v_max l Z a0 hw [] (0 : Int32) (0 : Int32) (0 : Int32) h0 n0 (by omega) (by decide)) hZ (wd 68 rfl) (wd 67 rfl) (by decide) (by decide)) (g := (mkF m 2 #[.val (.ref t), .val (.int wc), .val (.int (0 : Int32)), .val (.int (4 : Int32))] [(.int (0 : Int32)), (.int (0 : Int32))])) rfl (by rw [hml]; rfl) (argsL := [(.int (0 : Int32)), (.int (0 : Int32))]) (rest := []) (lenOf pd__II_I rfl) rfl (Nat.le_of_eq rfl) (hb hby d25_2) (fun _ _ => ⟨rfl, e0, (by decide : 0 + 0 ≤ _), (by decide : 0 + 0 ≤ _)⟩)
  dsimp only [Pt.U, Pt.locs, Pt.cells, Pt.slots] at X1 l1 y1 z1 st1 hQ1
  subst l1 y1 z1
  obtain ⟨rfl, N1q, e1⟩ := hQ1
  have N1 := Fr.app N0 N1q
  refine go_of (B := (T1.setTop (mkF m 5 #[.val (.ref t), .val (.int wc), .val (.int (0 : Int32)), .val (.int (4 : Int32))] [(.int (0 : Int32))]))) (st1) ?_
  refine go_of (B := (T1.setTop (mkF m 8 #[.val (.ref t), .val (.int wc), .val (.int (0 : Int32)), .val (.int (4 : Int32))] [(.ref t), (.int (4 : Int32))]))) (fun _ kk => XS.istoreN X1.here hx rfl (hb hby d25_5) rfl rfl (XS.iloadN X1.here hx rfl (hb hby d25_6) rfl (XS.aloadN X1.here hx rfl (hb hby d25_7) rfl rfl kk))) ?_
  obtain ⟨cl2, Ar2, q2, Sz2, Nn2, Hh2, G2⟩ := id (V)
  have ln2 := len_of Sz2 Nn2
  refine go_of (B := (T1.setTop (mkF m 9 #[.val (.ref t), .val (.int wc), .val (.int (0 : Int32)), .val (.int (4 : Int32))] [(.int (8 : Int32)), (.int (4 : Int32))]))) (fun _ kk => X1.arraylength hx (by rw [e1]; exact Ar2.1) (State.isArrayOf_alike hZ.alike Ar2.2.1) (g := (mkF m 8 #[.val (.ref t), .val (.int wc), .val (.int (0 : Int32)), .val (.int (4 : Int32))] [(.ref t), (.int (4 : Int32))])) rfl rfl (hb hby d25_8) _ (by rw [ln2]; exact kk)) ?_
  refine go_of (B := (T1.setTop (mkF m 11 #[.val (.ref t), .val (.int wc), .val (.int (0 : Int32)), .val (.int (4 : Int32))] [(.int (4 : Int32)), (.int (4 : Int32))]))) (fun _ kk => XS.iconst X1.here hx rfl (hb hby d25_9) (XS.ishr X1.here hx rfl (hb hby d25_10) rfl kk)) ?_
  obtain ⟨_, _, ⟨T3, L3, k3, n3⟩, -, X3, ⟨Lc3, hQ3, l3, y3, z3⟩, st3⟩ := Jvm.LawKit.callS X1 hx (y := MN4) hown (mvT hZ (wd 111 rfl)) (mvT hZ (wd 70 rfl)) (mvT hZ (wd 67 rfl)) (mvT hZ (wd 71 rfl)) (by decide) (backOf (W := 0) (v_min l Z a0 hw [] (4 : Int32) (4 : Int32) (4 : Int32) h0 n0 (by omega) (by decide)) hZ (wd 71 rfl) (wd 67 rfl) (by decide) (by decide)) (g := (mkF m 11 #[.val (.ref t), .val (.int wc), .val (.int (0 : Int32)), .val (.int (4 : Int32))] [(.int (4 : Int32)), (.int (4 : Int32))])) rfl (by rw [hml]; rfl) (argsL := [(.int (4 : Int32)), (.int (4 : Int32))]) (rest := []) (lenOf pd__II_I rfl) rfl (Nat.le_of_eq rfl) (hb hby d25_11) (fun _ _ => ⟨rfl, e1, (by decide : 0 + 0 ≤ _), (by decide : 0 + 0 ≤ _)⟩)
  dsimp only [Pt.U, Pt.locs, Pt.cells, Pt.slots] at X3 l3 y3 z3 st3 hQ3
  subst l3 y3 z3
  obtain ⟨rfl, N3q, e3⟩ := hQ3
  have N3 := Fr.app N1 N3q
  refine go_of (B := (T3.setTop (mkF m 14 #[.val (.ref t), .val (.int wc), .val (.int (0 : Int32)), .val (.int (4 : Int32))] [(.int (4 : Int32))]))) (st3) ?_
  refine go_of (B := (T3.setTop (mkF m 25 #[.val (.ref t), .val (.int wc), .val (.int (0 : Int32)), .val (.int (4 : Int32))] [(.int (65536 : Int32)), (.int wc)]))) (fun _ kk => XS.istoreN X3.here hx rfl (hb hby d25_14) rfl rfl (XS.iloadN X3.here hx rfl (hb hby d25_15) rfl (XS.iloadN X3.here hx rfl (hb hby d25_16) rfl (XS.icmpYes X3.here hx rfl (pc0 := 17) (pc' := 22) rfl (hb hby d25_17) rfl (tlt (by decide : (0 : Int32) < (4 : Int32))).1 (by decide) (by decide) (XS.iloadN X3.here hx rfl (hb hby d25_22) rfl (X3.ldcInt hx hown (mvT hZ (wd 112 rfl)) (g := (mkF m 23 #[.val (.ref t), .val (.int wc), .val (.int (0 : Int32)), .val (.int (4 : Int32))] [(.int wc)])) rfl (hb hby d25_23) _ kk)))))) ?_
  refine go_of (B := (T3.setTop (mkF m 32 #[.val (.ref t), .val (.int wc), .val (.int (0 : Int32)), .val (.int (4 : Int32))] [(.int (4 : Int32)), (.int (0 : Int32)), (.int wc), (.ref t)]))) (fun _ kk => XS.icmpNo X3.here hx rfl (hb hby d25_25) rfl (tlt (own_lt64 hwc)).2.1 (XS.aloadN X3.here hx rfl (hb hby d25_28) rfl rfl (XS.iloadN X3.here hx rfl (hb hby d25_29) rfl (XS.iloadN X3.here hx rfl (hb hby d25_30) rfl (XS.iloadN X3.here hx rfl (hb hby d25_31) rfl kk))))) ?_
  obtain ⟨_, _, ⟨T4, L4, k4, n4⟩, -, X4, ⟨Lc4, hQ4, l4, y4, z4⟩, st4⟩ := Jvm.LawKit.callS X3 hx (y := MN21) hown (mvT hZ (wd 113 rfl)) (mvT hZ (wd 114 rfl)) (mvT hZ (wd 77 rfl)) (mvT hZ (wd 115 rfl)) (by decide) (backOf (W := 0) (uic_4 l Z a0 hw [] t wc c0 c1 c2 c3 k gF h0 n0 (by omega) O SU V hc0 hc1 hc2 hc3 SF rgF) hZ (wd 115 rfl) (wd 77 rfl) (by decide) (by decide)) (g := (mkF m 32 #[.val (.ref t), .val (.int wc), .val (.int (0 : Int32)), .val (.int (4 : Int32))] [(.int (4 : Int32)), (.int (0 : Int32)), (.int wc), (.ref t)])) rfl (by rw [hml]; rfl) (argsL := [(.ref t), (.int wc), (.int (0 : Int32)), (.int (4 : Int32))]) (rest := []) (lenOf pd___BIII_I rfl) rfl (Nat.le_of_eq rfl) (hb hby d25_32) (fun _ _ => ⟨rfl, e3, (by decide : 0 + 0 ≤ _), (by decide : 0 + 0 ≤ _)⟩)
  dsimp only [Pt.U, Pt.locs, Pt.cells, Pt.slots] at X4 l4 y4 z4 st4 hQ4
  subst l4 y4 z4
  obtain ⟨r4, rfl, hr4, N4q, e4⟩ := hQ4
  have N4 := Fr.app N3 N4q
  refine go_of (B := (T4.setTop (mkF m 35 #[.val (.ref t), .val (.int wc), .val (.int (0 : Int32)), .val (.int (4 : Int32))] [(.int r4)]))) (st4) ?_
  refine go_end X4 (v := some (.int r4)) (fun h => by rw [Bd.returns] at h; cases h) Bd.notSynchronized (by decide) (by decide) (Q := (Q_uio_4 Z t wc c0 c1 c2 c3 k gF h0 n0)) ?_ (fun fs hr => own_retI X4 hx Bd.returns (hb hby d25_35) hr)
  unfold Q_uio_4
  try rw [e4]
  exact ⟨_, rfl, hr4, N4, rfl⟩
def Q_si2l_4 (Z : State) (a : Addr) (wc : Int32) (c0 : Int32) (c1 : Int32) (c2 : Int32) (c3 : Int32) (gC : Int32) (gF : Value) (h0 : Heap) (n0 : Nat) (v : Option Value) (h : Heap) (L : List Loc) : Prop := ∃ r : Int32, v = some (.int r) ∧ (r < 0 ↔ own_hs wc [c0, c1, c2, c3] = false) ∧ Fr n0 L ∧ h = h0
theorem ef_si2l_4 (m : MethodId) (a : Addr) (wc : Int32)  : entryFrame m #[(.ref a), (.int wc), (.int (0 : Int32))] 3 = mkF m 0 #[.val (.ref a), .val (.int wc), .val (.int (0 : Int32))] [] := by first | (simp [entryFrame, mkF, argsToLocals, Value.category]; done) | rfl
theorem si2l_4 (l : Launch) (Z : State) (a0 : Array Value) (hw : TW a0 Z) (ws : List Cond) (a : Addr) (wc : Int32) (c0 : Int32) (c1 : Int32) (c2 : Int32) (c3 : Int32) (gC : Int32) (gF : Value) (h0 : Heap) (n0 : Nat) (Z0 : n0 ≤ h0.size) (O : Old Z n0 h0) (SC : Sta Z Z.heap "java/lang/String" "COMPACT_STRINGS" "Z" (.int gC)) (hgC : ¬ gC = (0 : Int32)) (S : Str Z h0 a 4 [c0, c1, c2, c3]) (SU : US Z) (SF : Sta Z Z.heap "jdk/internal/util/Preconditions" "SIOOBE_FORMATTER" "Ljava/util/function/BiFunction;" gF) (rgF : gF.isRef = true) (hwc : ¬ wc < 0 ∧ ¬ (255 : Int32) < wc) :
    own_MF l Z MN9 jdk_42_method_80_code 3 (some .int) ws (own_R 5 0 0 73) #[(.ref a), (.int wc), (.int (0 : Int32))] h0 (Q_si2l_4 Z a wc c0 c1 c2 c3 gC gF h0 n0) := by
  have wd := @own_wd _ _ hw
  refine MetFree.of_bodySF (plainFor_of_name pn_java_lang_String) hisR ?_
  intro p e s m args below meth c s₁ Bd hml0 hP hK
  obtain ⟨rfl, hZ, hh⟩ := hP
  have hx := Bd.exec
  have hby := Bd.bytes
  have hml : c.maxLocals = 3 := hml0
  have hown : s.vm.findClass "java/lang/String" = some m.cls := findClass_of_methodNamed Bd.named
  have hnm := (name_of_methodNamed Bd.named Bd.method).1
  have X0 : Stand p l e (own_R 5 0 0 73) s m #[(.ref a), (.int wc), (.int (0 : Int32))] below meth c s₁ [] 0 0 := Stand.of_body Bd
  have e0 : s₁.heap = h0 := by rw [← hh, Bd.state]; rfl
  have N0 := Fr.nil n0
  obtain ⟨t, k, Ea, Fc, Fv, Va, hcs⟩ := (id S)
  have lta := own_nlt (Ea.lt)
  have ltt := own_nlt (Va.lt)
  refine go_of (A := s₁.setTop (entryFrame m #[(.ref a), (.int wc), (.int (0 : Int32))] 3)) (B := s₁.setTop (mkF m 0 #[.val (.ref a), .val (.int wc), .val (.int (0 : Int32))] [])) (fun _ kk' => castTop (ef_si2l_4 m a wc) kk') ?_
  refine go_of (B := (s₁.setTop (mkF m 1 #[.val (.ref a), .val (.int wc), .val (.int (0 : Int32))] [(.ref a)]))) (fun _ kk => XS.aloadN X0.here hx rfl (hb hby d7_0) rfl rfl kk) ?_
  obtain ⟨cq1, kq1, q1a, q1b, q1c⟩ := isOf hZ e0 Ea
  obtain ⟨_, _, ⟨T1, L1, k1, n1⟩, -, X1, ⟨Lc1, hQ1, l1, y1, z1⟩, st1⟩ := X0.virtualBack hx (y := MN10) (z := MN10) hown (mvT hZ (wd 42 rfl)) (mvT hZ (wd 43 rfl)) (notFace_of_selects (args := #[]) (mvT hZ (wd 45 rfl))) (mvT hZ (wd 45 rfl)) (mvT hZ (wd 44 rfl)) (by decide) (backOf (W := 0) (str_latin l Z a0 hw [] a gC h0 n0 (by omega) O SC hgC Fc) hZ (wd 46 rfl) (wd 9 rfl) (by decide) (by decide)) q1a q1c (g := (mkF m 1 #[.val (.ref a), .val (.int wc), .val (.int (0 : Int32))] [(.ref a)])) rfl (by rw [hml]; rfl) (Steps.refl _) (argsL := []) (rest := []) (lenOf pd___Z rfl) rfl (Nat.le_of_eq rfl) (hb hby d7_1) (fun _ _ => ⟨rfl, e0, (by decide : 0 + 0 ≤ _), (by decide : 0 + 0 ≤ _)⟩)
  dsimp only [Pt.U, Pt.locs, Pt.cells, Pt.slots] at X1 l1 y1 z1 st1 hQ1
  subst l1 y1 z1
  obtain ⟨rfl, N1q, e1⟩ := hQ1
  have N1 := Fr.app N0 N1q
  refine go_tr (B := (T1.setTop (mkF m 4 #[.val (.ref a), .val (.int wc), .val (.int (0 : Int32))] [(.int (1 : Int32))]))) (st1) ?_
  refine go_of (B := (T1.setTop (mkF m 8 #[.val (.ref a), .val (.int wc), .val (.int (0 : Int32))] [(.ref a)]))) (fun _ kk => XS.ifNo X1.here hx rfl (hb hby d7_4) rfl ((if0 _ _).trans (feq (by decide : ¬ ((1 : Int32) = (0 : Int32)))).1) (XS.aloadN X1.here hx rfl (hb hby d7_7) rfl rfl kk)) ?_
  obtain ⟨T2, X2, e2, st2⟩ := getF X1 hx hZ hown (host := "") (Or.inl (wd 26 rfl)) Via.refl e1 Fv (g := (mkF m 8 #[.val (.ref a), .val (.int wc), .val (.int (0 : Int32))] [(.ref a)])) rfl rfl (hb hby d7_8)
  refine go_of (B := (T2.setTop (mkF m 11 #[.val (.ref a), .val (.int wc), .val (.int (0 : Int32))] [(.ref t)]))) (st2) ?_
  refine go_of (B := (T2.setTop (mkF m 14 #[.val (.ref a), .val (.int wc), .val (.int (0 : Int32))] [(.ref a), (.int (0 : Int32)), (.int wc), (.ref t)]))) (fun _ kk => XS.iloadN X2.here hx rfl (hb hby d7_11) rfl (XS.iloadN X2.here hx rfl (hb hby d7_12) rfl (XS.aloadN X2.here hx rfl (hb hby d7_13) rfl rfl kk))) ?_
  obtain ⟨cq3, kq3, q3a, q3b, q3c⟩ := isOf hZ e2 Ea
  obtain ⟨_, _, ⟨T3, L3, k3, n3⟩, -, X3, ⟨Lc3, hQ3, l3, y3, z3⟩, st3⟩ := X2.virtualBack hx (y := MN11) (z := MN11) hown (mvT hZ (wd 48 rfl)) (mvT hZ (wd 49 rfl)) (notFace_of_selects (args := #[]) (mvT hZ (wd 51 rfl))) (mvT hZ (wd 51 rfl)) (mvT hZ (wd 50 rfl)) (by decide) (backOf (W := 3) (u_len l Z a0 hw [] a (4 : Int32) (8 : Int32) [c0, c1, c2, c3] gC h0 n0 (by omega) O SC hgC (Or.inl S) (by decide)) hZ (wd 52 rfl) (wd 9 rfl) (by decide) (by decide)) q3a q3c (g := (mkF m 14 #[.val (.ref a), .val (.int wc), .val (.int (0 : Int32))] [(.ref a), (.int (0 : Int32)), (.int wc), (.ref t)])) rfl (by rw [hml]; rfl) (Steps.refl _) (argsL := []) (rest := [(.int (0 : Int32)), (.int wc), (.ref t)]) (lenOf pd___I rfl) rfl (Nat.le_of_eq rfl) (hb hby d7_14) (fun _ _ => ⟨rfl, e2, (by decide : 0 + 0 ≤ _), (by decide : 0 + 0 ≤ _)⟩)
  dsimp only [Pt.U, Pt.locs, Pt.cells, Pt.slots] at X3 l3 y3 z3 st3 hQ3
  subst l3 y3 z3
  obtain ⟨rfl, N3q, e3⟩ := hQ3
  have N3 := Fr.app N1 N3q
  refine go_tr (B := (T3.setTop (mkF m 17 #[.val (.ref a), .val (.int wc), .val (.int (0 : Int32))] [(.int (4 : Int32)), (.int (0 : Int32)), (.int wc), (.ref t)]))) (st3) ?_
  obtain ⟨_, _, ⟨T4, L4, k4, n4⟩, -, X4, ⟨Lc4, hQ4, l4, y4, z4⟩, st4⟩ := Jvm.LawKit.callS X3 hx (y := MN13) hown (mvT hZ (wd 58 rfl)) (mvT hZ (wd 59 rfl)) (mvT hZ (wd 60 rfl)) (mvT hZ (wd 61 rfl)) (by decide) (backOf (W := 0) (lio_4 l Z a0 hw [] t wc (own_b8 c0) (own_b8 c1) (own_b8 c2) (own_b8 c3) k h0 n0 (by omega) Va hwc) hZ (wd 61 rfl) (wd 60 rfl) (by decide) (by decide)) (g := (mkF m 17 #[.val (.ref a), .val (.int wc), .val (.int (0 : Int32))] [(.int (4 : Int32)), (.int (0 : Int32)), (.int wc), (.ref t)])) rfl (by rw [hml]; rfl) (argsL := [(.ref t), (.int wc), (.int (0 : Int32)), (.int (4 : Int32))]) (rest := []) (lenOf pd___BIII_I rfl) rfl (Nat.le_of_eq rfl) (hb hby d7_17) (fun _ _ => ⟨rfl, e3, (by decide : 0 + 0 ≤ _), (by decide : 0 + 0 ≤ _)⟩)
  dsimp only [Pt.U, Pt.locs, Pt.cells, Pt.slots] at X4 l4 y4 z4 st4 hQ4
  subst l4 y4 z4
  obtain ⟨r4, rfl, hr4, N4q, e4⟩ := hQ4
  have N4 := Fr.app N3 N4q
  refine go_of (B := (T4.setTop (mkF m 20 #[.val (.ref a), .val (.int wc), .val (.int (0 : Int32))] [(.int r4)]))) (st4) ?_
  refine go_of (B := (T4.setTop (mkF m 36 #[.val (.ref a), .val (.int wc), .val (.int (0 : Int32))] [(.int r4)]))) (fun _ kk => XS.goto X4.here hx rfl (pc0 := 20) (pc' := 36) rfl (hb hby d7_20) (by decide) (by decide) kk) ?_
  refine go_end X4 (v := some (.int r4)) (fun h => by rw [Bd.returns] at h; cases h) Bd.notSynchronized (by decide) (by decide) (Q := (Q_si2l_4 Z a wc c0 c1 c2 c3 gC gF h0 n0)) ?_ (fun fs hr => own_retI X4 hx Bd.returns (hb hby d7_36) hr)
  unfold Q_si2l_4
  try rw [e4]
  exact ⟨_, rfl, hr4.trans (iff_of_eq (congrArg (fun b => b = false) (own_hsb wc hwc [c0, c1, c2, c3] hcs))), N4, rfl⟩
def Q_si2w_4 (Z : State) (a : Addr) (wc : Int32) (c0 : Int32) (c1 : Int32) (c2 : Int32) (c3 : Int32) (gC : Int32) (gF : Value) (h0 : Heap) (n0 : Nat) (v : Option Value) (h : Heap) (L : List Loc) : Prop := ∃ r : Int32, v = some (.int r) ∧ (r < 0 ↔ own_hs wc [c0, c1, c2, c3] = false) ∧ Fr n0 L ∧ h = h0
theorem ef_si2w_4 (m : MethodId) (a : Addr) (wc : Int32)  : entryFrame m #[(.ref a), (.int wc), (.int (0 : Int32))] 3 = mkF m 0 #[.val (.ref a), .val (.int wc), .val (.int (0 : Int32))] [] := by first | (simp [entryFrame, mkF, argsToLocals, Value.category]; done) | rfl
theorem si2w_4 (l : Launch) (Z : State) (a0 : Array Value) (hw : TW a0 Z) (ws : List Cond) (a : Addr) (wc : Int32) (c0 : Int32) (c1 : Int32) (c2 : Int32) (c3 : Int32) (gC : Int32) (gF : Value) (h0 : Heap) (n0 : Nat) (Z0 : n0 ≤ h0.size) (O : Old Z n0 h0) (SC : Sta Z Z.heap "java/lang/String" "COMPACT_STRINGS" "Z" (.int gC)) (hgC : ¬ gC = (0 : Int32)) (S : StrW Z h0 a 8 [c0, c1, c2, c3]) (SU : US Z) (SF : Sta Z Z.heap "jdk/internal/util/Preconditions" "SIOOBE_FORMATTER" "Ljava/util/function/BiFunction;" gF) (rgF : gF.isRef = true) (hwc : ¬ wc < 0 ∧ ¬ (255 : Int32) < wc) :
    own_MF l Z MN9 jdk_42_method_80_code 3 (some .int) ws (own_R 5 0 0 73) #[(.ref a), (.int wc), (.int (0 : Int32))] h0 (Q_si2w_4 Z a wc c0 c1 c2 c3 gC gF h0 n0) := by
  have wd := @own_wd _ _ hw
  refine MetFree.of_bodySF (plainFor_of_name pn_java_lang_String) hisR ?_
  intro p e s m args below meth c s₁ Bd hml0 hP hK
  obtain ⟨rfl, hZ, hh⟩ := hP
  have hx := Bd.exec
  have hby := Bd.bytes
  have hml : c.maxLocals = 3 := hml0
  have hown : s.vm.findClass "java/lang/String" = some m.cls := findClass_of_methodNamed Bd.named
  have hnm := (name_of_methodNamed Bd.named Bd.method).1
  have X0 : Stand p l e (own_R 5 0 0 73) s m #[(.ref a), (.int wc), (.int (0 : Int32))] below meth c s₁ [] 0 0 := Stand.of_body Bd
  have e0 : s₁.heap = h0 := by rw [← hh, Bd.state]; rfl
  have N0 := Fr.nil n0
  obtain ⟨t, k, Ea, Fc, Fv, Va, hcs⟩ := id S
  have hc0 : ¬ c0 < 0 ∧ ¬ (65535 : Int32) < c0 := hcs c0 (List.mem_of_getElem? (i := 0) rfl)
  have hc1 : ¬ c1 < 0 ∧ ¬ (65535 : Int32) < c1 := hcs c1 (List.mem_of_getElem? (i := 1) rfl)
  have hc2 : ¬ c2 < 0 ∧ ¬ (65535 : Int32) < c2 := hcs c2 (List.mem_of_getElem? (i := 2) rfl)
  have hc3 : ¬ c3 < 0 ∧ ¬ (65535 : Int32) < c3 := hcs c3 (List.mem_of_getElem? (i := 3) rfl)
  refine go_of (A := s₁.setTop (entryFrame m #[(.ref a), (.int wc), (.int (0 : Int32))] 3)) (B := s₁.setTop (mkF m 0 #[.val (.ref a), .val (.int wc), .val (.int (0 : Int32))] [])) (fun _ kk' => castTop (ef_si2w_4 m a wc) kk') ?_
  refine go_of (B := (s₁.setTop (mkF m 1 #[.val (.ref a), .val (.int wc), .val (.int (0 : Int32))] [(.ref a)]))) (fun _ kk => XS.aloadN X0.here hx rfl (hb hby d7_0) rfl rfl kk) ?_
  obtain ⟨cq1, kq1, q1a, q1b, q1c⟩ := isOf hZ e0 Ea
  obtain ⟨_, _, ⟨T1, L1, k1, n1⟩, -, X1, ⟨Lc1, hQ1, l1, y1, z1⟩, st1⟩ := X0.virtualBack hx (y := MN10) (z := MN10) hown (mvT hZ (wd 42 rfl)) (mvT hZ (wd 43 rfl)) (notFace_of_selects (args := #[]) (mvT hZ (wd 45 rfl))) (mvT hZ (wd 45 rfl)) (mvT hZ (wd 44 rfl)) (by decide) (backOf (W := 0) (u_lat l Z a0 hw [] a gC h0 n0 (by omega) O SC hgC Fc) hZ (wd 46 rfl) (wd 9 rfl) (by decide) (by decide)) q1a q1c (g := (mkF m 1 #[.val (.ref a), .val (.int wc), .val (.int (0 : Int32))] [(.ref a)])) rfl (by rw [hml]; rfl) (Steps.refl _) (argsL := []) (rest := []) (lenOf pd___Z rfl) rfl (Nat.le_of_eq rfl) (hb hby d7_1) (fun _ _ => ⟨rfl, e0, (by decide : 0 + 0 ≤ _), (by decide : 0 + 0 ≤ _)⟩)
  dsimp only [Pt.U, Pt.locs, Pt.cells, Pt.slots] at X1 l1 y1 z1 st1 hQ1
  subst l1 y1 z1
  obtain ⟨rfl, N1q, e1⟩ := hQ1
  have N1 := Fr.app N0 N1q
  refine go_tr (B := (T1.setTop (mkF m 4 #[.val (.ref a), .val (.int wc), .val (.int (0 : Int32))] [(.int (0 : Int32))]))) (st1) ?_
  refine go_of (B := (T1.setTop (mkF m 24 #[.val (.ref a), .val (.int wc), .val (.int (0 : Int32))] [(.ref a)]))) (fun _ kk => XS.ifYes X1.here hx rfl (pc0 := 4) (pc' := 23) rfl (hb hby d7_4) rfl ((if0 _ _).trans (teq (by decide : (0 : Int32) = (0 : Int32))).1) (by decide) (by decide) (XS.aloadN X1.here hx rfl (hb hby d7_23) rfl rfl kk)) ?_
  obtain ⟨T2, X2, e2, st2⟩ := getF X1 hx hZ hown (host := "") (Or.inl (wd 26 rfl)) Via.refl e1 Fv (g := (mkF m 24 #[.val (.ref a), .val (.int wc), .val (.int (0 : Int32))] [(.ref a)])) rfl rfl (hb hby d7_24)
  refine go_of (B := (T2.setTop (mkF m 27 #[.val (.ref a), .val (.int wc), .val (.int (0 : Int32))] [(.ref t)]))) (st2) ?_
  refine go_of (B := (T2.setTop (mkF m 30 #[.val (.ref a), .val (.int wc), .val (.int (0 : Int32))] [(.ref a), (.int (0 : Int32)), (.int wc), (.ref t)]))) (fun _ kk => XS.iloadN X2.here hx rfl (hb hby d7_27) rfl (XS.iloadN X2.here hx rfl (hb hby d7_28) rfl (XS.aloadN X2.here hx rfl (hb hby d7_29) rfl rfl kk))) ?_
  obtain ⟨cq3, kq3, q3a, q3b, q3c⟩ := isOf hZ e2 Ea
  obtain ⟨_, _, ⟨T3, L3, k3, n3⟩, -, X3, ⟨Lc3, hQ3, l3, y3, z3⟩, st3⟩ := X2.virtualBack hx (y := MN11) (z := MN11) hown (mvT hZ (wd 48 rfl)) (mvT hZ (wd 49 rfl)) (notFace_of_selects (args := #[]) (mvT hZ (wd 51 rfl))) (mvT hZ (wd 51 rfl)) (mvT hZ (wd 50 rfl)) (by decide) (backOf (W := 3) (u_len l Z a0 hw [] a (4 : Int32) (8 : Int32) [c0, c1, c2, c3] gC h0 n0 (by omega) O SC hgC (Or.inr S) (by decide)) hZ (wd 52 rfl) (wd 9 rfl) (by decide) (by decide)) q3a q3c (g := (mkF m 30 #[.val (.ref a), .val (.int wc), .val (.int (0 : Int32))] [(.ref a), (.int (0 : Int32)), (.int wc), (.ref t)])) rfl (by rw [hml]; rfl) (Steps.refl _) (argsL := []) (rest := [(.int (0 : Int32)), (.int wc), (.ref t)]) (lenOf pd___I rfl) rfl (Nat.le_of_eq rfl) (hb hby d7_30) (fun _ _ => ⟨rfl, e2, (by decide : 0 + 0 ≤ _), (by decide : 0 + 0 ≤ _)⟩)
  dsimp only [Pt.U, Pt.locs, Pt.cells, Pt.slots] at X3 l3 y3 z3 st3 hQ3
  subst l3 y3 z3
  obtain ⟨rfl, N3q, e3⟩ := hQ3
  have N3 := Fr.app N1 N3q
  refine go_tr (B := (T3.setTop (mkF m 33 #[.val (.ref a), .val (.int wc), .val (.int (0 : Int32))] [(.int (4 : Int32)), (.int (0 : Int32)), (.int wc), (.ref t)]))) (st3) ?_
  obtain ⟨_, _, ⟨T4, L4, k4, n4⟩, -, X4, ⟨Lc4, hQ4, l4, y4, z4⟩, st4⟩ := Jvm.LawKit.callS X3 hx (y := MN20) hown (mvT hZ (wd 107 rfl)) (mvT hZ (wd 108 rfl)) (mvT hZ (wd 77 rfl)) (mvT hZ (wd 109 rfl)) (by decide) (backOf (W := 0) (uio_4 l Z a0 hw [] t wc c0 c1 c2 c3 k gF h0 n0 (by omega) O SU Va hc0 hc1 hc2 hc3 SF rgF hwc) hZ (wd 109 rfl) (wd 77 rfl) (by decide) (by decide)) (g := (mkF m 33 #[.val (.ref a), .val (.int wc), .val (.int (0 : Int32))] [(.int (4 : Int32)), (.int (0 : Int32)), (.int wc), (.ref t)])) rfl (by rw [hml]; rfl) (argsL := [(.ref t), (.int wc), (.int (0 : Int32)), (.int (4 : Int32))]) (rest := []) (lenOf pd___BIII_I rfl) rfl (Nat.le_of_eq rfl) (hb hby d7_33) (fun _ _ => ⟨rfl, e3, (by decide : 0 + 0 ≤ _), (by decide : 0 + 0 ≤ _)⟩)
  dsimp only [Pt.U, Pt.locs, Pt.cells, Pt.slots] at X4 l4 y4 z4 st4 hQ4
  subst l4 y4 z4
  obtain ⟨r4, rfl, hr4, N4q, e4⟩ := hQ4
  have N4 := Fr.app N3 N4q
  refine go_of (B := (T4.setTop (mkF m 36 #[.val (.ref a), .val (.int wc), .val (.int (0 : Int32))] [(.int r4)]))) (st4) ?_
  refine go_end X4 (v := some (.int r4)) (fun h => by rw [Bd.returns] at h; cases h) Bd.notSynchronized (by decide) (by decide) (Q := (Q_si2w_4 Z a wc c0 c1 c2 c3 gC gF h0 n0)) ?_ (fun fs hr => own_retI X4 hx Bd.returns (hb hby d7_36) hr)
  unfold Q_si2w_4
  try rw [e4]
  exact ⟨_, rfl, hr4, N4, rfl⟩
theorem si2_4 (l : Launch) (Z : State) (a0 : Array Value) (hw : ∀ d ∈ tables_1, d.before a0 Z = true) (ws : List Cond) (a : Addr) (wc c0 c1 c2 c3 gC : Int32) (gF : Value) (h0 : Heap) (n0 : Nat) (Z0 : n0 ≤ h0.size) (O : Old Z n0 h0) (SC : Sta Z Z.heap "java/lang/String" "COMPACT_STRINGS" "Z" (.int gC)) (hgC : ¬ gC = (0 : Int32)) (S : StrU Z h0 a 4 8 [c0, c1, c2, c3]) (SU : US Z) (SF : Sta Z Z.heap "jdk/internal/util/Preconditions" "SIOOBE_FORMATTER" "Ljava/util/function/BiFunction;" gF) (rgF : gF.isRef = true) (hwc : ¬ wc < 0 ∧ ¬ (255 : Int32) < wc) :
    MetFree l MN9 (head1 (Jvm.Cond.code MN9 jdk_42_method_80_code 3 (some .int) :: ws) (own_R 5 0 0 73)) (fun aa' U1' => aa' = #[(.ref a), (.int wc), (.int (0 : Int32))] ∧ Z.Warmed39 U1'.vm ∧ U1'.heap = h0) (fun _ _ _ _ _ => True) (fun _ U1' oo' U2' => ∃ vv' LL', oo' = .returned vv' ∧ (Q_si2l_4 Z a wc c0 c1 c2 c3 gC gF h0 n0) vv' U2'.heap LL' ∧ FrameEnd U1' oo' U2' LL' (own_R 5 0 0 73).cells (own_R 5 0 0 73).slots) := by
  rcases S with S | S
  · exact si2l_4 l Z a0 hw ws a wc c0 c1 c2 c3 gC gF h0 n0 Z0 O SC hgC S SU SF rgF hwc
  · exact si2w_4 l Z a0 hw ws a wc c0 c1 c2 c3 gC gF h0 n0 Z0 O SC hgC S SU SF rgF hwc
def Q_si_4 (Z : State) (a : Addr) (wc : Int32) (c0 : Int32) (c1 : Int32) (c2 : Int32) (c3 : Int32) (gC : Int32) (gF : Value) (h0 : Heap) (n0 : Nat) (v : Option Value) (h : Heap) (L : List Loc) : Prop := ∃ r : Int32, v = some (.int r) ∧ (r < 0 ↔ own_hs wc [c0, c1, c2, c3] = false) ∧ Fr n0 L ∧ h = h0
theorem ef_si_4 (m : MethodId) (a : Addr) (wc : Int32)  : entryFrame m #[(.ref a), (.int wc)] 2 = mkF m 0 #[.val (.ref a), .val (.int wc)] [] := by first | (simp [entryFrame, mkF, argsToLocals, Value.category]; done) | rfl
theorem si_4 (l : Launch) (Z : State) (a0 : Array Value) (hw : TW a0 Z) (ws : List Cond) (a : Addr) (wc : Int32) (c0 : Int32) (c1 : Int32) (c2 : Int32) (c3 : Int32) (gC : Int32) (gF : Value) (h0 : Heap) (n0 : Nat) (Z0 : n0 ≤ h0.size) (O : Old Z n0 h0) (SC : Sta Z Z.heap "java/lang/String" "COMPACT_STRINGS" "Z" (.int gC)) (hgC : ¬ gC = (0 : Int32)) (S : StrU Z h0 a 4 8 [c0, c1, c2, c3]) (SU : US Z) (SF : Sta Z Z.heap "jdk/internal/util/Preconditions" "SIOOBE_FORMATTER" "Ljava/util/function/BiFunction;" gF) (rgF : gF.isRef = true) (hwc : ¬ wc < 0 ∧ ¬ (255 : Int32) < wc) :
    own_MF l Z MN8 jdk_42_method_79_code 2 (some .int) ws (own_R 6 0 0 87) #[(.ref a), (.int wc)] h0 (Q_si_4 Z a wc c0 c1 c2 c3 gC gF h0 n0) := by
  have wd := @own_wd _ _ hw
  refine MetFree.of_bodySF (plainFor_of_name pn_java_lang_String) hisR ?_
  intro p e s m args below meth c s₁ Bd hml0 hP hK
  obtain ⟨rfl, hZ, hh⟩ := hP
  have hx := Bd.exec
  have hby := Bd.bytes
  have hml : c.maxLocals = 2 := hml0
  have hown : s.vm.findClass "java/lang/String" = some m.cls := findClass_of_methodNamed Bd.named
  have hnm := (name_of_methodNamed Bd.named Bd.method).1
  have X0 : Stand p l e (own_R 6 0 0 87) s m #[(.ref a), (.int wc)] below meth c s₁ [] 0 0 := Stand.of_body Bd
  have e0 : s₁.heap = h0 := by rw [← hh, Bd.state]; rfl
  have N0 := Fr.nil n0
  refine go_of (A := s₁.setTop (entryFrame m #[(.ref a), (.int wc)] 2)) (B := s₁.setTop (mkF m 0 #[.val (.ref a), .val (.int wc)] [])) (fun _ kk' => castTop (ef_si_4 m a wc) kk') ?_
  refine go_of (B := (s₁.setTop (mkF m 3 #[.val (.ref a), .val (.int wc)] [(.int (0 : Int32)), (.int wc), (.ref a)]))) (fun _ kk => XS.aloadN X0.here hx rfl (hb hby d6_0) rfl rfl (XS.iloadN X0.here hx rfl (hb hby d6_1) rfl (XS.iconst X0.here hx rfl (hb hby d6_2) kk))) ?_
  obtain ⟨cq1, kq1, q1a, q1b, q1c⟩ := isOf hZ e0 S.exa
  obtain ⟨_, _, ⟨T1, L1, k1, n1⟩, -, X1, ⟨Lc1, hQ1, l1, y1, z1⟩, st1⟩ := X0.virtualBack hx (y := MN9) (z := MN9) hown (mvT hZ (wd 37 rfl)) (mvT hZ (wd 38 rfl)) (notFace_of_selects (args := #[]) (mvT hZ (wd 40 rfl))) (mvT hZ (wd 40 rfl)) (mvT hZ (wd 39 rfl)) (by decide) (backOf (W := 0) (si2_4 l Z a0 hw [] a wc c0 c1 c2 c3 gC gF h0 n0 (by omega) O SC hgC S SU SF rgF hwc) hZ (wd 41 rfl) (wd 9 rfl) (by decide) (by decide)) q1a q1c (g := (mkF m 3 #[.val (.ref a), .val (.int wc)] [(.int (0 : Int32)), (.int wc), (.ref a)])) rfl (by rw [hml]; rfl) (Steps.refl _) (argsL := [(.int wc), (.int (0 : Int32))]) (rest := []) (lenOf pd__II_I rfl) rfl (Nat.le_of_eq rfl) (hb hby d6_3) (fun _ _ => ⟨rfl, e0, (by decide : 0 + 0 ≤ _), (by decide : 0 + 0 ≤ _)⟩)
  dsimp only [Pt.U, Pt.locs, Pt.cells, Pt.slots] at X1 l1 y1 z1 st1 hQ1
  subst l1 y1 z1
  obtain ⟨r1, rfl, hr1, N1q, e1⟩ := hQ1
  have N1 := Fr.app N0 N1q
  refine go_tr (B := (T1.setTop (mkF m 6 #[.val (.ref a), .val (.int wc)] [(.int r1)]))) (st1) ?_
  refine go_end X1 (v := some (.int r1)) (fun h => by rw [Bd.returns] at h; cases h) Bd.notSynchronized (by decide) (by decide) (Q := (Q_si_4 Z a wc c0 c1 c2 c3 gC gF h0 n0)) ?_ (fun fs hr => own_retI X1 hx Bd.returns (hb hby d6_6) hr)
  unfold Q_si_4
  try rw [e1]
  exact ⟨_, rfl, hr1, N1, rfl⟩
def Q_isl_4 (Z : State) (a : Addr) (c0 : Int32) (c1 : Int32) (c2 : Int32) (c3 : Int32) (gC : Int32) (gF : Value) (h0 : Heap) (n0 : Nat) (v : Option Value) (h : Heap) (L : List Loc) : Prop := v = some (.int (own_lit [c0, c1, c2, c3])) ∧ Fr n0 L ∧ h = h0
theorem ef_isl_4 (m : MethodId) (a : Addr)  : entryFrame m #[(.ref a)] 1 = mkF m 0 #[.val (.ref a)] [] := by first | (simp [entryFrame, mkF, argsToLocals, Value.category]; done) | rfl
theorem isl_4 (l : Launch) (Z : State) (a0 : Array Value) (hw : TW a0 Z) (ws : List Cond) (a : Addr) (c0 : Int32) (c1 : Int32) (c2 : Int32) (c3 : Int32) (gC : Int32) (gF : Value) (h0 : Heap) (n0 : Nat) (Z0 : n0 ≤ h0.size) (O : Old Z n0 h0) (SC : Sta Z Z.heap "java/lang/String" "COMPACT_STRINGS" "Z" (.int gC)) (hgC : ¬ gC = (0 : Int32)) (S : StrU Z h0 a 4 8 [c0, c1, c2, c3]) (SU : US Z) (SF : Sta Z Z.heap "jdk/internal/util/Preconditions" "SIOOBE_FORMATTER" "Ljava/util/function/BiFunction;" gF) (rgF : gF.isRef = true) :
    own_MF l Z MN0 prog_12_method_3_code 1 (some .boolean) ws (own_R 7 0 0 100) #[(.ref a)] h0 (Q_isl_4 Z a c0 c1 c2 c3 gC gF h0 n0) := by
  have wd := @own_wd _ _ hw
  refine MetFree.of_bodySF (plainFor_of_name pn_com_example_grantline_grantline_Glob) hisR ?_
  intro p e s m args below meth c s₁ Bd hml0 hP hK
  obtain ⟨rfl, hZ, hh⟩ := hP
  have hx := Bd.exec
  have hby := Bd.bytes
  have hml : c.maxLocals = 1 := hml0
  have hown : s.vm.findClass "com/example/grantline/grantline/Glob" = some m.cls := findClass_of_methodNamed Bd.named
  have hnm := (name_of_methodNamed Bd.named Bd.method).1
  have X0 : Stand p l e (own_R 7 0 0 100) s m #[(.ref a)] below meth c s₁ [] 0 0 := Stand.of_body Bd
  have e0 : s₁.heap = h0 := by rw [← hh, Bd.state]; rfl
  have N0 := Fr.nil n0
  refine go_of (A := s₁.setTop (entryFrame m #[(.ref a)] 1)) (B := s₁.setTop (mkF m 0 #[.val (.ref a)] [])) (fun _ kk' => castTop (ef_isl_4 m a) kk') ?_
  refine go_of (B := (s₁.setTop (mkF m 3 #[.val (.ref a)] [(.int (42 : Int32)), (.ref a)]))) (fun _ kk => XS.aloadN X0.here hx rfl (hb hby d5_0) rfl rfl (XS.bipush X0.here hx rfl (hb hby d5_1) kk)) ?_
  obtain ⟨cq1, kq1, q1a, q1b, q1c⟩ := isOf hZ e0 S.exa
  obtain ⟨_, _, ⟨T1, L1, k1, n1⟩, -, X1, ⟨Lc1, hQ1, l1, y1, z1⟩, st1⟩ := X0.virtualBack hx (y := MN8) (z := MN8) hown (mvT hZ (wd 32 rfl)) (mvT hZ (wd 33 rfl)) (notFace_of_selects (args := #[]) (mvT hZ (wd 35 rfl))) (mvT hZ (wd 35 rfl)) (mvT hZ (wd 34 rfl)) (by decide) (backOf (W := 0) (si_4 l Z a0 hw [] a (42 : Int32) c0 c1 c2 c3 gC gF h0 n0 (by omega) O SC hgC S SU SF rgF (by decide)) hZ (wd 36 rfl) (wd 9 rfl) (by decide) (by decide)) q1a q1c (g := (mkF m 3 #[.val (.ref a)] [(.int (42 : Int32)), (.ref a)])) rfl (by rw [hml]; rfl) (Steps.refl _) (argsL := [(.int (42 : Int32))]) (rest := []) (lenOf pd__I_I rfl) rfl (Nat.le_of_eq rfl) (hb hby d5_3) (fun _ _ => ⟨rfl, e0, (by decide : 0 + 0 ≤ _), (by decide : 0 + 0 ≤ _)⟩)
  dsimp only [Pt.U, Pt.locs, Pt.cells, Pt.slots] at X1 l1 y1 z1 st1 hQ1
  subst l1 y1 z1
  obtain ⟨r1, rfl, hr1, N1q, e1⟩ := hQ1
  have N1 := Fr.app N0 N1q
  refine go_tr (B := (T1.setTop (mkF m 6 #[.val (.ref a)] [(.int r1)]))) (st1) ?_
  by_cases hcc2 : r1 < (0 : Int32)
  · refine go_of (B := (T1.setTop (mkF m 12 #[.val (.ref a)] [(.int (63 : Int32)), (.ref a)]))) (fun _ kk => XS.ifNo X1.here hx rfl (hb hby d5_6) rfl ((if0 _ _).trans (tlt hcc2).2.1) (XS.aloadN X1.here hx rfl (hb hby d5_9) rfl rfl (XS.bipush X1.here hx rfl (hb hby d5_10) kk))) ?_
    obtain ⟨cq3, kq3, q3a, q3b, q3c⟩ := isOf hZ e1 S.exa
    obtain ⟨_, _, ⟨T3, L3, k3, n3⟩, -, X3, ⟨Lc3, hQ3, l3, y3, z3⟩, st3⟩ := X1.virtualBack hx (y := MN8) (z := MN8) hown (mvT hZ (wd 32 rfl)) (mvT hZ (wd 33 rfl)) (notFace_of_selects (args := #[]) (mvT hZ (wd 35 rfl))) (mvT hZ (wd 35 rfl)) (mvT hZ (wd 34 rfl)) (by decide) (backOf (W := 0) (si_4 l Z a0 hw [] a (63 : Int32) c0 c1 c2 c3 gC gF h0 n0 (by omega) O SC hgC S SU SF rgF (by decide)) hZ (wd 36 rfl) (wd 9 rfl) (by decide) (by decide)) q3a q3c (g := (mkF m 12 #[.val (.ref a)] [(.int (63 : Int32)), (.ref a)])) rfl (by rw [hml]; rfl) (Steps.refl _) (argsL := [(.int (63 : Int32))]) (rest := []) (lenOf pd__I_I rfl) rfl (Nat.le_of_eq rfl) (hb hby d5_12) (fun _ _ => ⟨rfl, e1, (by decide : 0 + 0 ≤ _), (by decide : 0 + 0 ≤ _)⟩)
    dsimp only [Pt.U, Pt.locs, Pt.cells, Pt.slots] at X3 l3 y3 z3 st3 hQ3
    subst l3 y3 z3
    obtain ⟨r3, rfl, hr3, N3q, e3⟩ := hQ3
    have N3 := Fr.app N1 N3q
    refine go_tr (B := (T3.setTop (mkF m 15 #[.val (.ref a)] [(.int r3)]))) (st3) ?_
    by_cases hcc4 : r3 < (0 : Int32)
    · refine go_of (B := (T3.setTop (mkF m 23 #[.val (.ref a)] [(.int (1 : Int32))]))) (fun _ kk => XS.ifNo X3.here hx rfl (hb hby d5_15) rfl ((if0 _ _).trans (tlt hcc4).2.1) (XS.iconst X3.here hx rfl (hb hby d5_18) (XS.goto X3.here hx rfl (pc0 := 19) (pc' := 23) rfl (hb hby d5_19) (by decide) (by decide) kk))) ?_
      refine go_end X3 (v := some (.int (nar .boolean (1 : Int32)))) (fun h => by rw [Bd.returns] at h; cases h) Bd.notSynchronized (by decide) (by decide) (Q := (Q_isl_4 Z a c0 c1 c2 c3 gC gF h0 n0)) ?_ (fun fs hr => retN X3 hx (t := .boolean) Bd.returns (by simp) (hb hby d5_23) hr)
      unfold Q_isl_4
      try rw [e3]
      refine ⟨?_, N3, rfl⟩
      have hq42 := hr1.mp hcc2
      have hq63 := hr3.mp hcc4
      simp [own_lit, nar, hq42, hq63]
    · refine go_of (B := (T3.setTop (mkF m 23 #[.val (.ref a)] [(.int (0 : Int32))]))) (fun _ kk => XS.ifYes X3.here hx rfl (pc0 := 15) (pc' := 22) rfl (hb hby d5_15) rfl ((if0 _ _).trans (flt hcc4).2.1) (by decide) (by decide) (XS.iconst X3.here hx rfl (hb hby d5_22) kk)) ?_
      refine go_end X3 (v := some (.int (nar .boolean (0 : Int32)))) (fun h => by rw [Bd.returns] at h; cases h) Bd.notSynchronized (by decide) (by decide) (Q := (Q_isl_4 Z a c0 c1 c2 c3 gC gF h0 n0)) ?_ (fun fs hr => retN X3 hx (t := .boolean) Bd.returns (by simp) (hb hby d5_23) hr)
      unfold Q_isl_4
      try rw [e3]
      refine ⟨?_, N3, rfl⟩
      have hq42 := hr1.mp hcc2
      have hq63 := own_bt (fun q => hcc4 (hr3.mpr q))
      simp [own_lit, nar, hq42, hq63]
  · refine go_of (B := (T1.setTop (mkF m 23 #[.val (.ref a)] [(.int (0 : Int32))]))) (fun _ kk => XS.ifYes X1.here hx rfl (pc0 := 6) (pc' := 22) rfl (hb hby d5_6) rfl ((if0 _ _).trans (flt hcc2).2.1) (by decide) (by decide) (XS.iconst X1.here hx rfl (hb hby d5_22) kk)) ?_
    refine go_end X1 (v := some (.int (nar .boolean (0 : Int32)))) (fun h => by rw [Bd.returns] at h; cases h) Bd.notSynchronized (by decide) (by decide) (Q := (Q_isl_4 Z a c0 c1 c2 c3 gC gF h0 n0)) ?_ (fun fs hr => retN X1 hx (t := .boolean) Bd.returns (by simp) (hb hby d5_23) hr)
    unfold Q_isl_4
    try rw [e1]
    refine ⟨?_, N1, rfl⟩
    have hq42 := own_bt (fun q => hcc2 (hr1.mpr q))
    simp [own_lit, nar, hq42]
theorem d3_0 : decode jdk_42_method_149_code 0 = .ok (.aload_n 0, 1) := by decide +kernel
theorem d3_1 : decode jdk_42_method_149_code 1 = .ok (.invokespecial 1, 3) := by decide +kernel
theorem d3_4 : decode jdk_42_method_149_code 4 = .ok (.iload_n 3, 1) := by decide +kernel
theorem d3_5 : decode jdk_42_method_149_code 5 = .ok (.ifCond .ne 22, 3) := by decide +kernel
theorem d3_8 : decode jdk_42_method_149_code 8 = .ok (.aload_n 0, 1) := by decide +kernel
theorem d3_9 : decode jdk_42_method_149_code 9 = .ok (.ldc 7, 2) := by decide +kernel
theorem d3_11 : decode jdk_42_method_149_code 11 = .ok (.getfield 9, 3) := by decide +kernel
theorem d3_14 : decode jdk_42_method_149_code 14 = .ok (.putfield 9, 3) := by decide +kernel
theorem d3_17 : decode jdk_42_method_149_code 17 = .ok (.aload_n 0, 1) := by decide +kernel
theorem d3_18 : decode jdk_42_method_149_code 18 = .ok (.ldc 7, 2) := by decide +kernel
theorem d3_20 : decode jdk_42_method_149_code 20 = .ok (.getfield 15, 3) := by decide +kernel
theorem d3_23 : decode jdk_42_method_149_code 23 = .ok (.putfield 15, 3) := by decide +kernel
theorem d3_26 : decode jdk_42_method_149_code 26 = .ok (.return_, 1) := by decide +kernel
def Q_str_i4_0 (Z : State) (a : Addr) (s' : Addr) (u2 : Value) (h0 : Heap) (n0 : Nat) (v : Option Value) (h : Heap) (L : List Loc) : Prop := v = none ∧ Fr n0 L ∧ Keep h0 h [a] ∧ Str Z h a 0 []
theorem ef_str_i4_0 (m : MethodId) (a : Addr) (s' : Addr)  : entryFrame m #[(.ref a), (.ref s'), (.int (0 : Int32)), (.int (0 : Int32)), .null] 6 = mkF m 0 #[.val (.ref a), .val (.ref s'), .val (.int (0 : Int32)), .val (.int (0 : Int32)), .val .null, .unset] [] := by first | (simp [entryFrame, mkF, argsToLocals, Value.category]; done) | rfl
theorem str_i4_0 (l : Launch) (Z : State) (a0 : Array Value) (hw : TW a0 Z) (ws : List Cond) (a : Addr) (s' : Addr) (u2 : Value) (h0 : Heap) (n0 : Nat) (Z0 : n0 ≤ h0.size) (E : Exa Z h0 a "java/lang/String") (F : Fld Z h0 a "java/lang/String" "value" "[B" .null) (F2 : Fld Z h0 a "java/lang/String" "coder" "B" u2) (g : n0 ≤ a) :
    own_MFH l Z MN6 jdk_42_method_149_code 6 none ws (own_R 1 4 8 12) #[(.ref a), (.ref s'), (.int (0 : Int32)), (.int (0 : Int32)), .null] h0 (Q_str_i4_0 Z a s' u2 h0 n0) := by
  have wd := @own_wd _ _ hw
  refine MetFree.of_bodySF (plainFor_of_name pn_java_lang_String) hisR ?_
  intro p e s m args below meth c s₁ Bd hml0 hP hK
  obtain ⟨rfl, hZ, hh, hCH⟩ := hP
  have hx := Bd.exec
  have hby := Bd.bytes
  have hml : c.maxLocals = 6 := hml0
  have hown : s.vm.findClass "java/lang/String" = some m.cls := findClass_of_methodNamed Bd.named
  have hnm := (name_of_methodNamed Bd.named Bd.method).1
  have X0 : Stand p l e (own_R 1 4 8 12) (s.setVm s.vm) m #[(.ref a), (.ref s'), (.int (0 : Int32)), (.int (0 : Int32)), .null] below meth c s₁ [] 0 0 := Stand.of_body Bd
  have e0 : s₁.heap = h0 := by rw [← hh, Bd.state]; rfl
  have N0 := Fr.nil n0
  have hS : s.Since s.vm 0 := (State.WarmedH.refl s).since 0
  have hh0 := hh
  have hEL := own_EW hw
  have HC0 := CHr.refl hCH
  have lta := own_nlt (E.lt)
  refine go_of (A := s₁.setTop (entryFrame m #[(.ref a), (.ref s'), (.int (0 : Int32)), (.int (0 : Int32)), .null] 6)) (B := s₁.setTop (mkF m 0 #[.val (.ref a), .val (.ref s'), .val (.int (0 : Int32)), .val (.int (0 : Int32)), .val .null, .unset] [])) (fun _ kk' => castTop (ef_str_i4_0 m a s') kk') ?_
  refine go_of (B := (s₁.setTop (mkF m 1 #[.val (.ref a), .val (.ref s'), .val (.int (0 : Int32)), .val (.int (0 : Int32)), .val .null, .unset] [(.ref a)]))) (fun _ kk => XS.aloadN X0.here hx rfl (hb hby d3_0) rfl rfl kk) ?_
  obtain ⟨T1, X1, e1, st1⟩ := initO X0 hx hZ hown (wd 17 rfl) (wd 18 rfl) (wd 19 rfl) e0 (g := (mkF m 1 #[.val (.ref a), .val (.ref s'), .val (.int (0 : Int32)), .val (.int (0 : Int32)), .val .null, .unset] [(.ref a)])) rfl (by rw [hml]; rfl) rfl (hb hby d3_1) (by decide) (W := 0) (Nat.le_of_eq rfl) (by decide)
  refine go_of (B := (T1.setTop (mkF m 4 #[.val (.ref a), .val (.ref s'), .val (.int (0 : Int32)), .val (.int (0 : Int32)), .val .null, .unset] []))) (st1) ?_
  refine go_of (B := (T1.setTop (mkF m 8 #[.val (.ref a), .val (.ref s'), .val (.int (0 : Int32)), .val (.int (0 : Int32)), .val .null, .unset] []))) (fun _ kk => XS.iloadN X1.here hx rfl (hb hby d3_4) rfl (XS.ifNo X1.here hx rfl (hb hby d3_5) rfl ((if0 _ _).trans (teq (by decide : (0 : Int32) = (0 : Int32))).2) kk)) ?_
  have sf_2 := (own_safe_null hZ.alike E F : (Safe Z own_EL _ h0 a))
  refine go_of (B := (T1.setTop (mkF m 9 #[.val (.ref a), .val (.ref s'), .val (.int (0 : Int32)), .val (.int (0 : Int32)), .val .null, .unset] [(.ref a)]))) (fun _ kk => XS.aloadN X1.here hx rfl (hb hby d3_8) rfl rfl kk) ?_
  obtain ⟨b3, T3, h3, k3, t3, kt3, X3, e3, E3, hS, hk3, hZ, hown, A3, Fc3, Fv3, V3, lb3, lt3, HR3, -, ne3, st3⟩ := ldcCH X1 hx hZ hown (wd 20 rfl) (own_wS hw) e1 hS (by first | omega | exact own_ne (by omega) | exact own_le (by omega)) hEL (List.mem_of_getElem? (i := 0) rfl) HC0.1 (vs := []) (z := 0) ⟨(by decide), (by first | rfl | decide)⟩ (by decide) rfl (g := (mkF m 9 #[.val (.ref a), .val (.ref s'), .val (.int (0 : Int32)), .val (.int (0 : Int32)), .val .null, .unset] [(.ref a)])) rfl (hb hby d3_9) (n := 0) (by decide) (by decide) (by decide) (by decide)
  have lb3 := own_nlt lb3
  have lt3 := own_nlt lt3
  have sz3 := E3.1
  have HC3 := HC0.trans HR3
  have sf_4 := (HR3.safe (by first | omega | exact own_ne (by omega) | exact own_le (by omega)) sf_2)
  have nt3_a : @Ne Nat t3 a := fun q => (ne3 a sf_4).2 q.symm
  have nb3_a : @Ne Nat b3 a := fun q => (ne3 a sf_4).1 q.symm
  refine go_of (B := (T3.setTop (mkF m 11 #[.val (.ref a), .val (.ref s'), .val (.int (0 : Int32)), .val (.int (0 : Int32)), .val .null, .unset] [(.ref b3), (.ref a)]))) (st3) ?_
  obtain ⟨T5, X5, e5, st5⟩ := getF X3 hx hZ hown (host := "") (Or.inl (wd 26 rfl)) Via.refl e3 Fv3 (g := (mkF m 11 #[.val (.ref a), .val (.ref s'), .val (.int (0 : Int32)), .val (.int (0 : Int32)), .val .null, .unset] [(.ref b3), (.ref a)])) rfl rfl (hb hby d3_11)
  refine go_of (B := (T5.setTop (mkF m 14 #[.val (.ref a), .val (.ref s'), .val (.int (0 : Int32)), .val (.int (0 : Int32)), .val .null, .unset] [(.ref t3), (.ref a)]))) (st5) ?_
  have cf_6 := (E.ext E3)
  have cf_7 := (F.ext E3)
  obtain ⟨T8, h8, X8, e8, W8, st8⟩ := putF X5 hx hZ hown (host := "") (Or.inl (wd 26 rfl)) Via.refl e5 cf_7 cf_6 (Or.inr ⟨(wd 22 rfl), rfl, hnm⟩) (wd 8 rfl) (ty := (.array .byte)) (by decide) rfl rfl (g := (mkF m 14 #[.val (.ref a), .val (.ref s'), .val (.int (0 : Int32)), .val (.int (0 : Int32)), .val .null, .unset] [(.ref t3), (.ref a)])) rfl rfl (hb hby d3_14)
  have sz8 := W8.size
  have Fw8 := cf_7.same W8
  have N8 := Fr.snoc X8 N0 (g : n0 ≤ a)
  have SF8 := sf_4
  have HC8 := HC3.trans (CHr.wr W8 SF8 HC3.1)
  refine go_of (B := (T8.setTop (mkF m 17 #[.val (.ref a), .val (.ref s'), .val (.int (0 : Int32)), .val (.int (0 : Int32)), .val .null, .unset] []))) (st8) ?_
  refine go_of (B := (T8.setTop (mkF m 18 #[.val (.ref a), .val (.ref s'), .val (.int (0 : Int32)), .val (.int (0 : Int32)), .val .null, .unset] [(.ref a)]))) (fun _ kk => XS.aloadN X8.here hx rfl (hb hby d3_17) rfl rfl kk) ?_
  obtain ⟨b9, T9, h9, k9, t9, kt9, X9, e9, E9, hS, hk9, hZ, hown, A9, Fc9, Fv9, V9, lb9, lt9, HR9, -, ne9, st9⟩ := ldcCH X8 hx hZ hown (wd 20 rfl) (own_wS hw) e8 hS (by first | omega | exact own_ne (by omega) | exact own_le (by omega)) hEL (List.mem_of_getElem? (i := 0) rfl) HC8.1 (vs := []) (z := 0) ⟨(by decide), (by first | rfl | decide)⟩ (by decide) rfl (g := (mkF m 18 #[.val (.ref a), .val (.ref s'), .val (.int (0 : Int32)), .val (.int (0 : Int32)), .val .null, .unset] [(.ref a)])) rfl (hb hby d3_18) (n := 0) (by decide) (by decide) (by decide) (by decide)
  have lb9 := own_nlt lb9
  have lt9 := own_nlt lt9
  have sz9 := E9.1
  have HC9 := HC8.trans HR9
  have sf_10 := (HR9.safe (by first | omega | exact own_ne (by omega) | exact own_le (by omega)) (Safe.wr W8 SF8 HC3.1 sf_4))
  have nt9_a : @Ne Nat t9 a := fun q => (ne9 a sf_10).2 q.symm
  have nb9_a : @Ne Nat b9 a := fun q => (ne9 a sf_10).1 q.symm
  refine go_of (B := (T9.setTop (mkF m 20 #[.val (.ref a), .val (.ref s'), .val (.int (0 : Int32)), .val (.int (0 : Int32)), .val .null, .unset] [(.ref b9), (.ref a)]))) (st9) ?_
  obtain ⟨T11, X11, e11, st11⟩ := getF X9 hx hZ hown (host := "") (Or.inl (wd 27 rfl)) Via.refl e9 Fc9 (g := (mkF m 20 #[.val (.ref a), .val (.ref s'), .val (.int (0 : Int32)), .val (.int (0 : Int32)), .val .null, .unset] [(.ref b9), (.ref a)])) rfl rfl (hb hby d3_20)
  refine go_of (B := (T11.setTop (mkF m 23 #[.val (.ref a), .val (.ref s'), .val (.int (0 : Int32)), .val (.int (0 : Int32)), .val .null, .unset] [(.int (0 : Int32)), (.ref a)]))) (st11) ?_
  have cf_12 := ((cf_6.wr W8).ext E9)
  have cf_13 := (((F2.ext E3).other W8 (Or.inr (slot_ne (Or.inr (wd 23 rfl)) (Or.inr (wd 22 rfl)) (by decide) (t := .byte) (t' := (.array .byte)) (by decide) (by decide)))).ext E9)
  obtain ⟨T14, h14, X14, e14, W14, st14⟩ := putFN X11 hx hZ hown (wd 27 rfl) Via.refl e11 cf_13 cf_12 (Or.inr ⟨(wd 23 rfl), rfl, hnm⟩) (wd 8 rfl) (ty := .byte) (v' := (.int (nar .byte (0 : Int32)))) (by decide) rfl (fits_nar_byte _) (g := (mkF m 23 #[.val (.ref a), .val (.ref s'), .val (.int (0 : Int32)), .val (.int (0 : Int32)), .val .null, .unset] [(.int (0 : Int32)), (.ref a)])) rfl rfl (hb hby d3_23)
  have sz14 := W14.size
  have Fw14 := cf_13.same W14
  have N14 := Fr.snoc X14 N8 (g : n0 ≤ a)
  have SF14 := sf_10
  have HC14 := HC9.trans (CHr.wr W14 SF14 HC9.1)
  refine go_of (B := (T14.setTop (mkF m 26 #[.val (.ref a), .val (.ref s'), .val (.int (0 : Int32)), .val (.int (0 : Int32)), .val .null, .unset] []))) (st14) ?_
  have cf_15 := (((V3.other W8 (by first | omega | exact own_ne (by omega) | exact own_le (by omega))).ext E9).other W14 (by first | omega | exact own_ne (by omega) | exact own_le (by omega)))
  have cf_16 := ((Fw8.ext E9).other W14 (Or.inr (slot_ne (Or.inr (wd 22 rfl)) (Or.inr (wd 23 rfl)) (by decide) (t := (.array .byte)) (t' := .byte) (by decide) (by decide))))
  have cf_17 := (cf_12.wr W14)
  refine go_endH X14 hZ hEL HC14 hh0 e14 hS (by rw [e14]; omega) (v := none) (fun _ => rfl) Bd.notSynchronized (by decide) (by decide) (Q := (Q_str_i4_0 Z a s' u2 h0 n0)) ?_ (fun fs hr => X14.returnOut hx Bd.returns (hb hby d3_26) hr)
  unfold Q_str_i4_0
  try rw [e14]
  exact ⟨rfl, N14, (((((Keep.refl h0 [a]).ext E3).wr W8 (Or.inl (List.mem_of_getElem? (i := 0) rfl))).ext E9).wr W14 (Or.inl (List.mem_of_getElem? (i := 0) rfl))), ⟨t3, kt3, cf_17, Fw14, cf_16, cf_15, (fun _ q => nomatch q)⟩⟩
theorem d2_0 : decode jdk_42_method_3_code 0 = .ok (.aload_n 0, 1) := by decide +kernel
theorem d2_1 : decode jdk_42_method_3_code 1 = .ok (.aload_n 1, 1) := by decide +kernel
theorem d2_2 : decode jdk_42_method_3_code 2 = .ok (.iconst 0, 1) := by decide +kernel
theorem d2_3 : decode jdk_42_method_3_code 3 = .ok (.aload_n 1, 1) := by decide +kernel
theorem d2_4 : decode jdk_42_method_3_code 4 = .ok (.arraylength, 1) := by decide +kernel
theorem d2_5 : decode jdk_42_method_3_code 5 = .ok (.aconst_null, 1) := by decide +kernel
theorem d2_6 : decode jdk_42_method_3_code 6 = .ok (.invokespecial 27, 3) := by decide +kernel
theorem pd___CIILjava_lang_Void__V : parseMethodDescriptor "([CIILjava/lang/Void;)V" = some ⟨[(.array .char), .int, .int, (.object "java/lang/Void")], none⟩ := by decide +kernel
theorem d2_9 : decode jdk_42_method_3_code 9 = .ok (.return_, 1) := by decide +kernel
def Q_str_i1_0 (Z : State) (a : Addr) (s' : Addr) (u2 : Value) (ks : ClassId) (h0 : Heap) (n0 : Nat) (v : Option Value) (h : Heap) (L : List Loc) : Prop := v = none ∧ Fr n0 L ∧ Keep h0 h [a] ∧ Str Z h a 0 []
theorem ef_str_i1_0 (m : MethodId) (a : Addr) (s' : Addr)  : entryFrame m #[(.ref a), (.ref s')] 2 = mkF m 0 #[.val (.ref a), .val (.ref s')] [] := by first | (simp [entryFrame, mkF, argsToLocals, Value.category]; done) | rfl
theorem str_i1_0 (l : Launch) (Z : State) (a0 : Array Value) (hw : TW a0 Z) (ws : List Cond) (a : Addr) (s' : Addr) (u2 : Value) (ks : ClassId) (h0 : Heap) (n0 : Nat) (Z0 : n0 ≤ h0.size) (E : Exa Z h0 a "java/lang/String") (F : Fld Z h0 a "java/lang/String" "value" "[B" .null) (F2 : Fld Z h0 a "java/lang/String" "coder" "B" u2) (g : n0 ≤ a) (Vs : Arv Z h0 s' ks .char 0 [] (.int 0)) :
    own_MFH l Z MN5 jdk_42_method_3_code 2 none ws (own_R 2 4 8 29) #[(.ref a), (.ref s')] h0 (Q_str_i1_0 Z a s' u2 ks h0 n0) := by
  have wd := @own_wd _ _ hw
  refine MetFree.of_bodySF (plainFor_of_name pn_java_lang_String) hisR ?_
  intro p e s m args below meth c s₁ Bd hml0 hP hK
  obtain ⟨rfl, hZ, hh, hCH⟩ := hP
  have hx := Bd.exec
  have hby := Bd.bytes
  have hml : c.maxLocals = 2 := hml0
  have hown : s.vm.findClass "java/lang/String" = some m.cls := findClass_of_methodNamed Bd.named
  have hnm := (name_of_methodNamed Bd.named Bd.method).1
  have X0 : Stand p l e (own_R 2 4 8 29) (s.setVm s.vm) m #[(.ref a), (.ref s')] below meth c s₁ [] 0 0 := Stand.of_body Bd
  have e0 : s₁.heap = h0 := by rw [← hh, Bd.state]; rfl
  have N0 := Fr.nil n0
  have hS : s.Since s.vm 0 := (State.WarmedH.refl s).since 0
  have hh0 := hh
  have hEL := own_EW hw
  have HC0 := CHr.refl hCH
  have lta := own_nlt (E.lt)
  refine go_of (A := s₁.setTop (entryFrame m #[(.ref a), (.ref s')] 2)) (B := s₁.setTop (mkF m 0 #[.val (.ref a), .val (.ref s')] [])) (fun _ kk' => castTop (ef_str_i1_0 m a s') kk') ?_
  refine go_of (B := (s₁.setTop (mkF m 4 #[.val (.ref a), .val (.ref s')] [(.ref s'), (.int (0 : Int32)), (.ref s'), (.ref a)]))) (fun _ kk => XS.aloadN X0.here hx rfl (hb hby d2_0) rfl rfl (XS.aloadN X0.here hx rfl (hb hby d2_1) rfl rfl (XS.iconst X0.here hx rfl (hb hby d2_2) (XS.aloadN X0.here hx rfl (hb hby d2_3) rfl rfl kk)))) ?_
  obtain ⟨cl1, Ar1, q1, Sz1, Nn1, Hh1, G1⟩ := id (Vs)
  have ln1 := len_of Sz1 Nn1
  refine go_of (B := (s₁.setTop (mkF m 5 #[.val (.ref a), .val (.ref s')] [(.int (0 : Int32)), (.int (0 : Int32)), (.ref s'), (.ref a)]))) (fun _ kk => X0.arraylength hx (by rw [e0]; exact Ar1.1) (State.isArrayOf_alike hZ.alike Ar1.2.1) (g := (mkF m 4 #[.val (.ref a), .val (.ref s')] [(.ref s'), (.int (0 : Int32)), (.ref s'), (.ref a)])) rfl rfl (hb hby d2_4) _ (by rw [ln1]; exact kk)) ?_
  refine go_of (B := (s₁.setTop (mkF m 6 #[.val (.ref a), .val (.ref s')] [.null, (.int (0 : Int32)), (.int (0 : Int32)), (.ref s'), (.ref a)]))) (fun _ kk => XS.aconstNull X0.here hx rfl (hb hby d2_5) kk) ?_
  obtain ⟨_, _, ⟨T2, L2, k2, n2⟩, -, X2', hS2', gr2, ⟨Lc2, hQ2, l2, y2, z2, HR2⟩, st2⟩ := X0.specialBackS hx (y := MN6) rfl hown (mvT hZ (wd 13 rfl)) (mvT hZ (wd 14 rfl)) (mvT hZ (wd 16 rfl)) (by decide) (backOfSH (W := 0) (str_i4_0 l Z a0 hw [] a s' u2 h0 n0 Z0 E F F2 g) hZ (wd 16 rfl) (wd 9 rfl) (by decide) (by decide) hEL HC0.1) (g := (mkF m 6 #[.val (.ref a), .val (.ref s')] [.null, (.int (0 : Int32)), (.int (0 : Int32)), (.ref s'), (.ref a)])) rfl (by rw [hml]; rfl) (Steps.refl _) (a := a) (argsL := [(.ref s'), (.int (0 : Int32)), (.int (0 : Int32)), .null]) (rest := []) (lenOf pd___CIILjava_lang_Void__V rfl) rfl (Nat.le_of_eq rfl) (hb hby d2_6) (fun _ _ => ⟨rfl, e0, (by decide : 0 + 4 ≤ _), (by decide : 0 + 8 ≤ _)⟩)
  dsimp only [Pt.U, Pt.locs, Pt.cells, Pt.slots] at X2' hS2' gr2 l2 y2 z2 st2 hQ2 HR2
  subst l2 y2 z2
  have X2 : Stand _ _ _ _ (s.setVm T2.vm) _ _ _ _ _ T2 _ _ _ := X2'
  have hS : s.Since T2.vm T2.heap.size := foldS hS (by rw [e0]; omega) hS2' gr2
  have hZ : Z.Warmed39 (s.setVm T2.vm).vm := State.Warmed39.trans (t := s.setVm s.vm) hZ hS2'.1
  have hown : (s.setVm T2.vm).vm.findClass "java/lang/String" = some m.cls := by rw [show (s.setVm T2.vm).vm = T2.vm from rfl, hS2'.1.alike.findClass]; exact hown
  obtain ⟨rfl, N2q, K2, S2⟩ := hQ2
  have N2 := Fr.app N0 N2q
  have sz2 := K2.1
  have HC2 := HC0.trans HR2
  refine go_tr (B := (T2.setTop (mkF m 9 #[.val (.ref a), .val (.ref s')] []))) (st2) ?_
  refine go_endH X2 hZ hEL HC2 hh0 rfl hS (by first | omega | exact own_ne (by omega) | exact own_le (by omega)) (v := none) (fun _ => rfl) Bd.notSynchronized (by decide) (by decide) (Q := (Q_str_i1_0 Z a s' u2 ks h0 n0)) ?_ (fun fs hr => X2.returnOut hx Bd.returns (hb hby d2_9) hr)
  unfold Q_str_i1_0
  exact ⟨rfl, N2, ((Keep.refl h0 [a]).trans K2 (allS (Or.inl (List.mem_of_getElem? (i := 0) rfl)) all0)), S2⟩
theorem d17_0 : decode jdk_52_method_21_code 0 = .ok (.iconst 0, 1) := by decide +kernel
theorem d17_1 : decode jdk_52_method_21_code 1 = .ok (.istore 5, 2) := by decide +kernel
theorem d17_3 : decode jdk_52_method_21_code 3 = .ok (.iload 5, 2) := by decide +kernel
theorem d17_5 : decode jdk_52_method_21_code 5 = .ok (.iload 4, 2) := by decide +kernel
theorem d17_7 : decode jdk_52_method_21_code 7 = .ok (.if_icmp .ge 37, 3) := by decide +kernel
theorem d17_10 : decode jdk_52_method_21_code 10 = .ok (.aload_n 0, 1) := by decide +kernel
theorem d17_11 : decode jdk_52_method_21_code 11 = .ok (.iload_n 1, 1) := by decide +kernel
theorem d17_12 : decode jdk_52_method_21_code 12 = .ok (.caload, 1) := by decide +kernel
theorem d17_13 : decode jdk_52_method_21_code 13 = .ok (.istore 6, 2) := by decide +kernel
theorem d17_15 : decode jdk_52_method_21_code 15 = .ok (.iload 6, 2) := by decide +kernel
theorem d17_17 : decode jdk_52_method_21_code 17 = .ok (.sipush 255, 3) := by decide +kernel
theorem d17_20 : decode jdk_52_method_21_code 20 = .ok (.if_icmp .le 6, 3) := by decide +kernel
theorem d17_23 : decode jdk_52_method_21_code 23 = .ok (.iload 5, 2) := by decide +kernel
theorem d17_25 : decode jdk_52_method_21_code 25 = .ok (.ireturn, 1) := by decide +kernel
def Q_u_c5_1 (Z : State) (s' : Addr) (d : Addr) (c0 : Int32) (ks : ClassId) (kd : ClassId) (h0 : Heap) (n0 : Nat) (v : Option Value) (h : Heap) (L : List Loc) : Prop := ∃ r : Int32, v = some (.int r) ∧ Fr n0 L ∧ Keep h0 h [d] ∧ ((r = 1 ∧ ¬ (255 : Int32) < c0 ∧ Arv Z h d kd .byte 1 [(.int (own_b8 c0))] (.int 0)) ∨ (r = 0 ∧ (255 : Int32) < c0))
theorem d17_26 : decode jdk_52_method_21_code 26 = .ok (.aload_n 2, 1) := by decide +kernel
theorem d17_27 : decode jdk_52_method_21_code 27 = .ok (.iload_n 3, 1) := by decide +kernel
theorem d17_28 : decode jdk_52_method_21_code 28 = .ok (.iload 6, 2) := by decide +kernel
theorem d17_30 : decode jdk_52_method_21_code 30 = .ok (.i2b, 1) := by decide +kernel
theorem d17_31 : decode jdk_52_method_21_code 31 = .ok (.bastore, 1) := by decide +kernel
theorem d17_32 : decode jdk_52_method_21_code 32 = .ok (.iinc 1 1, 3) := by decide +kernel
theorem d17_35 : decode jdk_52_method_21_code 35 = .ok (.iinc 3 1, 3) := by decide +kernel
theorem d17_38 : decode jdk_52_method_21_code 38 = .ok (.iinc 5 1, 3) := by decide +kernel
theorem d17_41 : decode jdk_52_method_21_code 41 = .ok (.goto (-38), 3) := by decide +kernel
theorem d17_44 : decode jdk_52_method_21_code 44 = .ok (.iload 4, 2) := by decide +kernel
theorem d17_46 : decode jdk_52_method_21_code 46 = .ok (.ireturn, 1) := by decide +kernel
theorem ef_u_c5_1 (m : MethodId) (s' : Addr) (d : Addr)  : entryFrame m #[(.ref s'), (.int (0 : Int32)), (.ref d), (.int (0 : Int32)), (.int (1 : Int32))] 7 = mkF m 0 #[.val (.ref s'), .val (.int (0 : Int32)), .val (.ref d), .val (.int (0 : Int32)), .val (.int (1 : Int32)), .unset, .unset] [] := by first | (simp [entryFrame, mkF, argsToLocals, Value.category]; done) | rfl
theorem u_c5_1 (l : Launch) (Z : State) (a0 : Array Value) (hw : TW a0 Z) (ws : List Cond) (s' : Addr) (d : Addr) (c0 : Int32) (ks : ClassId) (kd : ClassId) (h0 : Heap) (n0 : Nat) (Z0 : n0 ≤ h0.size) (Vs : Arv Z h0 s' ks .char 1 [(.int c0)] (.int 0)) (Vd : Arv Z h0 d kd .byte 1 [(.int 0)] (.int 0)) (nsd : s' ≠ d) (g : n0 ≤ d) :
    own_MF l Z MN18 jdk_52_method_21_code 7 (some .int) ws (own_R 0 0 0 0) #[(.ref s'), (.int (0 : Int32)), (.ref d), (.int (0 : Int32)), (.int (1 : Int32))] h0 (Q_u_c5_1 Z s' d c0 ks kd h0 n0) := by
  have wd := @own_wd _ _ hw
  refine MetFree.of_bodySF (plainFor_of_name pn_java_lang_StringUTF16) hisR ?_
  intro p e s m args below meth c s₁ Bd hml0 hP hK
  obtain ⟨rfl, hZ, hh⟩ := hP
  have hx := Bd.exec
  have hby := Bd.bytes
  have hml : c.maxLocals = 7 := hml0
  have hown : s.vm.findClass "java/lang/StringUTF16" = some m.cls := findClass_of_methodNamed Bd.named
  have hnm := (name_of_methodNamed Bd.named Bd.method).1
  have X0 : Stand p l e (own_R 0 0 0 0) s m #[(.ref s'), (.int (0 : Int32)), (.ref d), (.int (0 : Int32)), (.int (1 : Int32))] below meth c s₁ [] 0 0 := Stand.of_body Bd
  have e0 : s₁.heap = h0 := by rw [← hh, Bd.state]; rfl
  have N0 := Fr.nil n0
  have lts := own_nlt (Vs.lt)
  have ltd := own_nlt (Vd.lt)
  refine go_of (A := s₁.setTop (entryFrame m #[(.ref s'), (.int (0 : Int32)), (.ref d), (.int (0 : Int32)), (.int (1 : Int32))] 7)) (B := s₁.setTop (mkF m 0 #[.val (.ref s'), .val (.int (0 : Int32)), .val (.ref d), .val (.int (0 : Int32)), .val (.int (1 : Int32)), .unset, .unset] [])) (fun _ kk' => castTop (ef_u_c5_1 m s' d) kk') ?_
  refine go_of (B := (s₁.setTop (mkF m 11 #[.val (.ref s'), .val (.int (0 : Int32)), .val (.ref d), .val (.int (0 : Int32)), .val (.int (1 : Int32)), .val (.int (0 : Int32)), .unset] [(.ref s')]))) (fun _ kk => XS.iconst X0.here hx rfl (hb hby d17_0) (XS.istore X0.here hx rfl (hb hby d17_1) rfl rfl (XS.iload X0.here hx rfl (hb hby d17_3) rfl (XS.iload X0.here hx rfl (hb hby d17_5) rfl (XS.icmpNo X0.here hx rfl (hb hby d17_7) rfl (tlt (by decide : (0 : Int32) < (1 : Int32))).2.1 (XS.aloadN X0.here hx rfl (hb hby d17_10) rfl rfl kk)))))) ?_
  refine go_of (B := (s₁.setTop (mkF m 12 #[.val (.ref s'), .val (.int (0 : Int32)), .val (.ref d), .val (.int (0 : Int32)), .val (.int (1 : Int32)), .val (.int (0 : Int32)), .unset] [(.int (0 : Int32)), (.ref s')]))) (fun _ kk => XS.iloadN X0.here hx rfl (hb hby d17_11) rfl kk) ?_
  obtain ⟨cl1, Ar1, q1, Sz1, Nn1, Hh1, G1⟩ := id (Vs)
  refine go_of (B := (s₁.setTop (mkF m 20 #[.val (.ref s'), .val (.int (0 : Int32)), .val (.ref d), .val (.int (0 : Int32)), .val (.int (1 : Int32)), .val (.int (0 : Int32)), .val (.int c0)] [(.int (255 : Int32)), (.int c0)]))) (fun _ kk => X0.caload hx (j := (0 : Int32)) (v := (.int c0)) (by rw [e0]; exact Ar1.1) (State.isArrayOf_alike hZ.alike Ar1.2.1) Ar1.2.2 (inb_of Sz1 ⟨by decide, by decide⟩) (Hh1.at (inb_of Sz1 ⟨by decide, by decide⟩) rfl) (g := (mkF m 12 #[.val (.ref s'), .val (.int (0 : Int32)), .val (.ref d), .val (.int (0 : Int32)), .val (.int (1 : Int32)), .val (.int (0 : Int32)), .unset] [(.int (0 : Int32)), (.ref s')])) rfl rfl (hb hby d17_12) _ (XS.istore X0.here hx rfl (hb hby d17_13) rfl rfl (XS.iload X0.here hx rfl (hb hby d17_15) rfl (XS.sipush X0.here hx rfl (hb hby d17_17) kk)))) ?_
  by_cases hcc2 : (255 : Int32) < c0
  · refine go_of (B := (s₁.setTop (mkF m 25 #[.val (.ref s'), .val (.int (0 : Int32)), .val (.ref d), .val (.int (0 : Int32)), .val (.int (1 : Int32)), .val (.int (0 : Int32)), .val (.int c0)] [(.int (0 : Int32))]))) (fun _ kk => XS.icmpNo X0.here hx rfl (hb hby d17_20) rfl (tlt hcc2).2.2.2 (XS.iload X0.here hx rfl (hb hby d17_23) rfl kk)) ?_
    refine go_end X0 (v := some (.int (0 : Int32))) (fun h => by rw [Bd.returns] at h; cases h) Bd.notSynchronized (by decide) (by decide) (Q := (Q_u_c5_1 Z s' d c0 ks kd h0 n0)) ?_ (fun fs hr => own_retI X0 hx Bd.returns (hb hby d17_25) hr)
    unfold Q_u_c5_1
    try rw [e0]
    exact ⟨_, rfl, N0, (Keep.refl h0 [d]), Or.inr (⟨rfl, hcc2⟩)⟩
  · refine go_of (B := (s₁.setTop (mkF m 31 #[.val (.ref s'), .val (.int (0 : Int32)), .val (.ref d), .val (.int (0 : Int32)), .val (.int (1 : Int32)), .val (.int (0 : Int32)), .val (.int c0)] [(.int (c0.toInt8.toInt32)), (.int (0 : Int32)), (.ref d)]))) (fun _ kk => XS.icmpYes X0.here hx rfl (pc0 := 20) (pc' := 26) rfl (hb hby d17_20) rfl (flt hcc2).2.2.2 (by decide) (by decide) (XS.aloadN X0.here hx rfl (hb hby d17_26) rfl rfl (XS.iloadN X0.here hx rfl (hb hby d17_27) rfl (XS.iload X0.here hx rfl (hb hby d17_28) rfl (XS.i2b X0.here hx rfl (hb hby d17_30) rfl kk))))) ?_
    obtain ⟨cl3, Ar3, q3, Sz3, Nn3, Hh3, G3⟩ := id (Vd)
    obtain ⟨T4, h4, X4, e4, W4, st4⟩ := stB X0 hx hZ e0 Ar3 (j := (0 : Int32)) (inb_of Sz3 ⟨by decide, by decide⟩) (g := (mkF m 31 #[.val (.ref s'), .val (.int (0 : Int32)), .val (.ref d), .val (.int (0 : Int32)), .val (.int (1 : Int32)), .val (.int (0 : Int32)), .val (.int c0)] [(.int (c0.toInt8.toInt32)), (.int (0 : Int32)), (.ref d)])) rfl rfl (hb hby d17_31)
    have sz4 := W4.size
    have N4 := Fr.snoc X4 N0 (g : n0 ≤ d)
    have V4 : Arv Z h4 d kd .byte (1 : Int32) [(.int ((c0.toInt8.toInt32).toInt8.toInt32))] (.int (0 : Int32)) := Arv.set Ar3 q3 Sz3 Nn3 Hh3 G3 (fits_nar_byte _) W4 0 rfl (Nat.le_of_ble_eq_true rfl)
    rw [own_bb] at V4
    refine go_of (B := (T4.setTop (mkF m 32 #[.val (.ref s'), .val (.int (0 : Int32)), .val (.ref d), .val (.int (0 : Int32)), .val (.int (1 : Int32)), .val (.int (0 : Int32)), .val (.int c0)] []))) (st4) ?_
    refine go_of (B := (T4.setTop (mkF m 7 #[.val (.ref s'), .val (.int (1 : Int32)), .val (.ref d), .val (.int (1 : Int32)), .val (.int (1 : Int32)), .val (.int (1 : Int32)), .val (.int c0)] [(.int (1 : Int32)), (.int (1 : Int32))]))) (fun _ kk => XS.iinc X4.here hx rfl (hb hby d17_32) rfl rfl (XS.iinc X4.here hx rfl (hb hby d17_35) rfl rfl (XS.iinc X4.here hx rfl (hb hby d17_38) rfl rfl (XS.goto X4.here hx rfl (pc0 := 41) (pc' := 3) rfl (hb hby d17_41) (by decide) (by decide) (XS.iload X4.here hx rfl (hb hby d17_3) rfl (XS.iload X4.here hx rfl (hb hby d17_5) rfl kk)))))) ?_
    refine go_of (B := (T4.setTop (mkF m 46 #[.val (.ref s'), .val (.int (1 : Int32)), .val (.ref d), .val (.int (1 : Int32)), .val (.int (1 : Int32)), .val (.int (1 : Int32)), .val (.int c0)] [(.int (1 : Int32))]))) (fun _ kk => XS.icmpYes X4.here hx rfl (pc0 := 7) (pc' := 44) rfl (hb hby d17_7) rfl (flt (by decide : ¬ ((1 : Int32) < (1 : Int32)))).2.1 (by decide) (by decide) (XS.iload X4.here hx rfl (hb hby d17_44) rfl kk)) ?_
    refine go_end X4 (v := some (.int (1 : Int32))) (fun h => by rw [Bd.returns] at h; cases h) Bd.notSynchronized (by decide) (by decide) (Q := (Q_u_c5_1 Z s' d c0 ks kd h0 n0)) ?_ (fun fs hr => own_retI X4 hx Bd.returns (hb hby d17_46) hr)
    unfold Q_u_c5_1
    try rw [e4]
    exact ⟨_, rfl, N4, ((Keep.refl h0 [d]).wr W4 (Or.inl (List.mem_of_getElem? (i := 0) rfl))), Or.inl ⟨rfl, hcc2, V4⟩⟩
theorem d22_0 : decode jdk_52_method_3_code 0 = .ok (.iload_n 0, 1) := by decide +kernel
theorem d22_1 : decode jdk_52_method_3_code 1 = .ok (.ifCond .ge 11, 3) := by decide +kernel
theorem d22_12 : decode jdk_52_method_3_code 12 = .ok (.iload_n 0, 1) := by decide +kernel
theorem d22_13 : decode jdk_52_method_3_code 13 = .ok (.ldc 20, 2) := by decide +kernel
theorem d22_15 : decode jdk_52_method_3_code 15 = .ok (.if_icmp .lt 40, 3) := by decide +kernel
theorem d22_55 : decode jdk_52_method_3_code 55 = .ok (.iload_n 0, 1) := by decide +kernel
theorem d22_56 : decode jdk_52_method_3_code 56 = .ok (.iconst 1, 1) := by decide +kernel
theorem d22_57 : decode jdk_52_method_3_code 57 = .ok (.ishl, 1) := by decide +kernel
theorem d22_58 : decode jdk_52_method_3_code 58 = .ok (.ireturn, 1) := by decide +kernel
def Q_u_nbl_1 (Z : State)  (h0 : Heap) (n0 : Nat) (v : Option Value) (h : Heap) (L : List Loc) : Prop := v = some (.int 2) ∧ Fr n0 L ∧ h = h0
theorem ef_u_nbl_1 (m : MethodId)   : entryFrame m #[(.int (1 : Int32))] 1 = mkF m 0 #[.val (.int (1 : Int32))] [] := by first | (simp [entryFrame, mkF, argsToLocals, Value.category]; done) | rfl
theorem u_nbl_1 (l : Launch) (Z : State) (a0 : Array Value) (hw : TW a0 Z) (ws : List Cond)  (h0 : Heap) (n0 : Nat) (Z0 : n0 ≤ h0.size)  :
    own_MF l Z MN24 jdk_52_method_3_code 1 (some .int) ws (own_R 0 0 0 0) #[(.int (1 : Int32))] h0 (Q_u_nbl_1 Z  h0 n0) := by
  have wd := @own_wd _ _ hw
  refine MetFree.of_bodySF (plainFor_of_name pn_java_lang_StringUTF16) hisR ?_
  intro p e s m args below meth c s₁ Bd hml0 hP hK
  obtain ⟨rfl, hZ, hh⟩ := hP
  have hx := Bd.exec
  have hby := Bd.bytes
  have hml : c.maxLocals = 1 := hml0
  have hown : s.vm.findClass "java/lang/StringUTF16" = some m.cls := findClass_of_methodNamed Bd.named
  have hnm := (name_of_methodNamed Bd.named Bd.method).1
  have X0 : Stand p l e (own_R 0 0 0 0) s m #[(.int (1 : Int32))] below meth c s₁ [] 0 0 := Stand.of_body Bd
  have e0 : s₁.heap = h0 := by rw [← hh, Bd.state]; rfl
  have N0 := Fr.nil n0
  refine go_of (A := s₁.setTop (entryFrame m #[(.int (1 : Int32))] 1)) (B := s₁.setTop (mkF m 0 #[.val (.int (1 : Int32))] [])) (fun _ kk' => castTop (ef_u_nbl_1 m ) kk') ?_
  refine go_of (B := (s₁.setTop (mkF m 56 #[.val (.int (1 : Int32))] [(.int (1 : Int32))]))) (fun _ kk => XS.iloadN X0.here hx rfl (hb hby d22_0) rfl (XS.ifYes X0.here hx rfl (pc0 := 1) (pc' := 12) rfl (hb hby d22_1) rfl ((if0 _ _).trans (flt (by decide : ¬ ((1 : Int32) < (0 : Int32)))).2.1) (by decide) (by decide) (XS.iloadN X0.here hx rfl (hb hby d22_12) rfl (X0.ldcInt hx hown (mvT hZ (wd 97 rfl)) (g := (mkF m 13 #[.val (.int (1 : Int32))] [(.int (1 : Int32))])) rfl (hb hby d22_13) _ (XS.icmpYes X0.here hx rfl (pc0 := 15) (pc' := 55) rfl (hb hby d22_15) rfl (tlt (by decide : (1 : Int32) < (1073741823 : Int32))).1 (by decide) (by decide) (XS.iloadN X0.here hx rfl (hb hby d22_55) rfl kk)))))) ?_
  refine go_of (B := (s₁.setTop (mkF m 58 #[.val (.int (1 : Int32))] [(.int (2 : Int32))]))) (fun _ kk => XS.iconst X0.here hx rfl (hb hby d22_56) (XS.ishl X0.here hx rfl (hb hby d22_57) rfl kk)) ?_
  refine go_end X0 (v := some (.int (2 : Int32))) (fun h => by rw [Bd.returns] at h; cases h) Bd.notSynchronized (by decide) (by decide) (Q := (Q_u_nbl_1 Z  h0 n0)) ?_ (fun fs hr => own_retI X0 hx Bd.returns (hb hby d22_58) hr)
  unfold Q_u_nbl_1
  try rw [e0]
  exact ⟨rfl, N0, rfl⟩
theorem d21_0 : decode jdk_52_method_2_code 0 = .ok (.iload_n 0, 1) := by decide +kernel
theorem d21_1 : decode jdk_52_method_2_code 1 = .ok (.invokestatic 11, 3) := by decide +kernel
theorem d21_4 : decode jdk_52_method_2_code 4 = .ok (.newarray .byte, 2) := by decide +kernel
theorem d21_6 : decode jdk_52_method_2_code 6 = .ok (.areturn, 1) := by decide +kernel
def Q_u_nbf_1 (Z : State)  (h0 : Heap) (n0 : Nat) (v : Option Value) (h : Heap) (L : List Loc) : Prop := ∃ (t : Addr) (k : ClassId), v = some (.ref t) ∧ Fr n0 L ∧ h0.size ≤ t ∧ Keep h0 h [] ∧ Arv Z h t k .byte 2 [(.int 0), (.int 0)] (.int 0)
theorem ef_u_nbf_1 (m : MethodId)   : entryFrame m #[(.int (1 : Int32))] 1 = mkF m 0 #[.val (.int (1 : Int32))] [] := by first | (simp [entryFrame, mkF, argsToLocals, Value.category]; done) | rfl
theorem u_nbf_1 (l : Launch) (Z : State) (a0 : Array Value) (hw : TW a0 Z) (ws : List Cond)  (h0 : Heap) (n0 : Nat) (Z0 : n0 ≤ h0.size)  :
    own_MF l Z MN23 jdk_52_method_2_code 1 (some (.array .byte)) ws (own_R 1 1 2 12) #[(.int (1 : Int32))] h0 (Q_u_nbf_1 Z  h0 n0) := by
  have wd := @own_wd _ _ hw
  refine MetFree.of_bodySF (plainFor_of_name pn_java_lang_StringUTF16) hisR ?_
  intro p e s m args below meth c s₁ Bd hml0 hP hK
  obtain ⟨rfl, hZ, hh⟩ := hP
  have hx := Bd.exec
  have hby := Bd.bytes
  have hml : c.maxLocals = 1 := hml0
  have hown : s.vm.findClass "java/lang/StringUTF16" = some m.cls := findClass_of_methodNamed Bd.named
  have hnm := (name_of_methodNamed Bd.named Bd.method).1
  have X0 : Stand p l e (own_R 1 1 2 12) s m #[(.int (1 : Int32))] below meth c s₁ [] 0 0 := Stand.of_body Bd
  have e0 : s₁.heap = h0 := by rw [← hh, Bd.state]; rfl
  have N0 := Fr.nil n0
  refine go_of (A := s₁.setTop (entryFrame m #[(.int (1 : Int32))] 1)) (B := s₁.setTop (mkF m 0 #[.val (.int (1 : Int32))] [])) (fun _ kk' => castTop (ef_u_nbf_1 m ) kk') ?_
  refine go_of (B := (s₁.setTop (mkF m 1 #[.val (.int (1 : Int32))] [(.int (1 : Int32))]))) (fun _ kk => XS.iloadN X0.here hx rfl (hb hby d21_0) rfl kk) ?_
  obtain ⟨_, _, ⟨T1, L1, k1, n1⟩, -, X1, ⟨Lc1, hQ1, l1, y1, z1⟩, st1⟩ := Jvm.LawKit.callS X0 hx (y := MN24) hown (mvT hZ (wd 94 rfl)) (mvT hZ (wd 95 rfl)) (mvT hZ (wd 77 rfl)) (mvT hZ (wd 96 rfl)) (by decide) (backOf (W := 0) (u_nbl_1 l Z a0 hw [] h0 n0 (by omega)) hZ (wd 96 rfl) (wd 77 rfl) (by decide) (by decide)) (g := (mkF m 1 #[.val (.int (1 : Int32))] [(.int (1 : Int32))])) rfl (by rw [hml]; rfl) (argsL := [(.int (1 : Int32))]) (rest := []) (lenOf pd__I_I rfl) rfl (Nat.le_of_eq rfl) (hb hby d21_1) (fun _ _ => ⟨rfl, e0, (by decide : 0 + 0 ≤ _), (by decide : 0 + 0 ≤ _)⟩)
  dsimp only [Pt.U, Pt.locs, Pt.cells, Pt.slots] at X1 l1 y1 z1 st1 hQ1
  subst l1 y1 z1
  obtain ⟨rfl, N1q, e1⟩ := hQ1
  have N1 := Fr.app N0 N1q
  refine go_of (B := (T1.setTop (mkF m 4 #[.val (.int (1 : Int32))] [(.int (2 : Int32))]))) (st1) ?_
  obtain ⟨T2, h2, k2, X2, e2, E2, A2, st2⟩ := newP X1 hx hZ (wd 21 rfl) e1 (g := (mkF m 4 #[.val (.int (1 : Int32))] [(.int (2 : Int32))])) rfl (hb hby d21_4) rfl (by decide) (cap := 2) (by decide) (by decide) (by decide) (by decide)
  obtain ⟨b2, g2⟩ : ∃ z, z = h0.size := ⟨_, rfl⟩
  rw [← g2] at A2 st2
  have hi2 := own_nlt A2.lt
  have sz2 := E2.1
  have V2 : Arv Z h2 b2 k2 .byte (2 : Int32) [(.int (0 : Int32)), (.int (0 : Int32))] (.int (0 : Int32)) := (Arv.new A2 (by decide)).pad (pad_rep [] (.int (0 : Int32)) 2)
  refine go_of (B := (T2.setTop (mkF m 6 #[.val (.int (1 : Int32))] [(.ref b2)]))) (st2) ?_
  refine go_end X2 (v := some (.ref b2)) (fun h => by rw [Bd.returns] at h; cases h) Bd.notSynchronized (by decide) (by decide) (Q := (Q_u_nbf_1 Z  h0 n0)) ?_ (fun fs hr => own_retA X2 hx Bd.returns rfl rfl (hb hby d21_6) hr)
  unfold Q_u_nbf_1
  try rw [e2]
  exact ⟨b2, k2, rfl, N1, by omega, ((Keep.refl h0 []).ext E2), V2⟩
theorem d23_0 : decode jdk_52_method_4_code 0 = .ok (.getstatic 44, 3) := by decide +kernel
theorem d23_3 : decode jdk_52_method_4_code 3 = .ok (.ifCond .ne 25, 3) := by decide +kernel
theorem d23_28 : decode jdk_52_method_4_code 28 = .ok (.iload_n 1, 1) := by decide +kernel
theorem d23_29 : decode jdk_52_method_4_code 29 = .ok (.iconst 1, 1) := by decide +kernel
theorem d23_30 : decode jdk_52_method_4_code 30 = .ok (.ishl, 1) := by decide +kernel
theorem d23_31 : decode jdk_52_method_4_code 31 = .ok (.istore_n 1, 1) := by decide +kernel
theorem d23_32 : decode jdk_52_method_4_code 32 = .ok (.aload_n 0, 1) := by decide +kernel
theorem d23_33 : decode jdk_52_method_4_code 33 = .ok (.iload_n 1, 1) := by decide +kernel
theorem d23_34 : decode jdk_52_method_4_code 34 = .ok (.iinc 1 1, 3) := by decide +kernel
theorem d23_37 : decode jdk_52_method_4_code 37 = .ok (.iload_n 2, 1) := by decide +kernel
theorem d23_38 : decode jdk_52_method_4_code 38 = .ok (.getstatic 59, 3) := by decide +kernel
theorem d23_41 : decode jdk_52_method_4_code 41 = .ok (.ishr, 1) := by decide +kernel
theorem d23_42 : decode jdk_52_method_4_code 42 = .ok (.i2b, 1) := by decide +kernel
theorem d23_43 : decode jdk_52_method_4_code 43 = .ok (.bastore, 1) := by decide +kernel
theorem d23_44 : decode jdk_52_method_4_code 44 = .ok (.aload_n 0, 1) := by decide +kernel
theorem d23_45 : decode jdk_52_method_4_code 45 = .ok (.iload_n 1, 1) := by decide +kernel
theorem d23_46 : decode jdk_52_method_4_code 46 = .ok (.iload_n 2, 1) := by decide +kernel
theorem d23_47 : decode jdk_52_method_4_code 47 = .ok (.getstatic 63, 3) := by decide +kernel
theorem d23_50 : decode jdk_52_method_4_code 50 = .ok (.ishr, 1) := by decide +kernel
theorem d23_51 : decode jdk_52_method_4_code 51 = .ok (.i2b, 1) := by decide +kernel
theorem d23_52 : decode jdk_52_method_4_code 52 = .ok (.bastore, 1) := by decide +kernel
theorem d23_53 : decode jdk_52_method_4_code 53 = .ok (.return_, 1) := by decide +kernel
def Q_u_put (Z : State) (t : Addr) (ii : Int32) (ch : Int32) (mm : Int32) (vs : List Value) (ia : Nat) (ib : Nat) (k : ClassId) (h0 : Heap) (n0 : Nat) (v : Option Value) (h : Heap) (L : List Loc) : Prop := v = none ∧ Fr n0 L ∧ Keep h0 h [t] ∧ Arv Z h t k .byte mm ((vs.set ia (.int (own_b0 ch))).set ib (.int (own_b1 ch))) (.int 0)
theorem ef_u_put (m : MethodId) (t : Addr) (ii : Int32) (ch : Int32)  : entryFrame m #[(.ref t), (.int ii), (.int ch)] 3 = mkF m 0 #[.val (.ref t), .val (.int ii), .val (.int ch)] [] := by first | (simp [entryFrame, mkF, argsToLocals, Value.category]; done) | rfl
theorem u_put (l : Launch) (Z : State) (a0 : Array Value) (hw : TW a0 Z) (ws : List Cond) (t : Addr) (ii : Int32) (ch : Int32) (mm : Int32) (vs : List Value) (ia : Nat) (ib : Nat) (k : ClassId) (h0 : Heap) (n0 : Nat) (Z0 : n0 ≤ h0.size) (O : Old Z n0 h0) (SU : US Z) (V : Arv Z h0 t k .byte mm vs (.int 0)) (g : n0 ≤ t) (b0 : ¬ (ii <<< ((1 : Int32) &&& 31)) < 0 ∧ (ii <<< ((1 : Int32) &&& 31)) < mm) (b1 : ¬ ((ii <<< ((1 : Int32) &&& 31)) + (1 : Int32)) < 0 ∧ ((ii <<< ((1 : Int32) &&& 31)) + (1 : Int32)) < mm) (j0 : (ii <<< ((1 : Int32) &&& 31)).toNatClampNeg = ia) (j1 : ((ii <<< ((1 : Int32) &&& 31)) + (1 : Int32)).toNatClampNeg = ib) (l0 : ia < vs.length) (l1 : ib < vs.length) :
    own_MF l Z MN25 jdk_52_method_4_code 3 none ws (own_R 0 0 0 0) #[(.ref t), (.int ii), (.int ch)] h0 (Q_u_put Z t ii ch mm vs ia ib k h0 n0) := by
  have wd := @own_wd _ _ hw
  refine MetFree.of_bodySF (plainFor_of_name pn_java_lang_StringUTF16) hisR ?_
  intro p e s m args below meth c s₁ Bd hml0 hP hK
  obtain ⟨rfl, hZ, hh⟩ := hP
  have hx := Bd.exec
  have hby := Bd.bytes
  have hml : c.maxLocals = 3 := hml0
  have hown : s.vm.findClass "java/lang/StringUTF16" = some m.cls := findClass_of_methodNamed Bd.named
  have hnm := (name_of_methodNamed Bd.named Bd.method).1
  have X0 : Stand p l e (own_R 0 0 0 0) s m #[(.ref t), (.int ii), (.int ch)] below meth c s₁ [] 0 0 := Stand.of_body Bd
  have e0 : s₁.heap = h0 := by rw [← hh, Bd.state]; rfl
  have N0 := Fr.nil n0
  have ltt := own_nlt (V.lt)
  refine go_of (A := s₁.setTop (entryFrame m #[(.ref t), (.int ii), (.int ch)] 3)) (B := s₁.setTop (mkF m 0 #[.val (.ref t), .val (.int ii), .val (.int ch)] [])) (fun _ kk' => castTop (ef_u_put m t ii ch) kk') ?_
  obtain ⟨T1, X1, e1, st1⟩ := getS2 X0 hx hZ hown (host := "") (Or.inl (wd 101 rfl)) Via.refl e0 (SU.1.ext O.2) (g := (mkF m 0 #[.val (.ref t), .val (.int ii), .val (.int ch)] [])) rfl (hb hby d23_0)
  refine go_of (B := (T1.setTop (mkF m 3 #[.val (.ref t), .val (.int ii), .val (.int ch)] [(.int (1 : Int32))]))) (st1) ?_
  refine go_of (B := (T1.setTop (mkF m 33 #[.val (.ref t), .val (.int (ii <<< ((1 : Int32) &&& 31))), .val (.int ch)] [(.ref t)]))) (fun _ kk => XS.ifYes X1.here hx rfl (pc0 := 3) (pc' := 28) rfl (hb hby d23_3) rfl ((if0 _ _).trans (feq (by decide : ¬ ((1 : Int32) = (0 : Int32)))).2) (by decide) (by decide) (XS.iloadN X1.here hx rfl (hb hby d23_28) rfl (XS.iconst X1.here hx rfl (hb hby d23_29) (XS.ishl X1.here hx rfl (hb hby d23_30) rfl (XS.istoreN X1.here hx rfl (hb hby d23_31) rfl rfl (XS.aloadN X1.here hx rfl (hb hby d23_32) rfl rfl kk)))))) ?_
  refine go_of (B := (T1.setTop (mkF m 38 #[.val (.ref t), .val (.int ((ii <<< ((1 : Int32) &&& 31)) + (1 : Int32))), .val (.int ch)] [(.int ch), (.int (ii <<< ((1 : Int32) &&& 31))), (.ref t)]))) (fun _ kk => XS.iloadN X1.here hx rfl (hb hby d23_33) rfl (XS.iinc X1.here hx rfl (hb hby d23_34) rfl rfl (XS.iloadN X1.here hx rfl (hb hby d23_37) rfl kk))) ?_
  obtain ⟨T2, X2, e2, st2⟩ := getS2 X1 hx hZ hown (host := "") (Or.inl (wd 102 rfl)) Via.refl e1 (SU.2.1.ext O.2) (g := (mkF m 38 #[.val (.ref t), .val (.int ((ii <<< ((1 : Int32) &&& 31)) + (1 : Int32))), .val (.int ch)] [(.int ch), (.int (ii <<< ((1 : Int32) &&& 31))), (.ref t)])) rfl (hb hby d23_38)
  refine go_of (B := (T2.setTop (mkF m 41 #[.val (.ref t), .val (.int ((ii <<< ((1 : Int32) &&& 31)) + (1 : Int32))), .val (.int ch)] [(.int (0 : Int32)), (.int ch), (.int (ii <<< ((1 : Int32) &&& 31))), (.ref t)]))) (st2) ?_
  refine go_of (B := (T2.setTop (mkF m 43 #[.val (.ref t), .val (.int ((ii <<< ((1 : Int32) &&& 31)) + (1 : Int32))), .val (.int ch)] [(.int ((ch >>> ((0 : Int32) &&& 31)).toInt8.toInt32)), (.int (ii <<< ((1 : Int32) &&& 31))), (.ref t)]))) (fun _ kk => XS.ishr X2.here hx rfl (hb hby d23_41) rfl (XS.i2b X2.here hx rfl (hb hby d23_42) rfl kk)) ?_
  obtain ⟨cl3, Ar3, q3, Sz3, Nn3, Hh3, G3⟩ := id (V)
  obtain ⟨T4, h4, X4, e4, W4, st4⟩ := stB X2 hx hZ e2 Ar3 (j := (ii <<< ((1 : Int32) &&& 31))) (inb_of Sz3 b0) (g := (mkF m 43 #[.val (.ref t), .val (.int ((ii <<< ((1 : Int32) &&& 31)) + (1 : Int32))), .val (.int ch)] [(.int ((ch >>> ((0 : Int32) &&& 31)).toInt8.toInt32)), (.int (ii <<< ((1 : Int32) &&& 31))), (.ref t)])) rfl rfl (hb hby d23_43)
  have sz4 := W4.size
  have N4 := Fr.snoc X4 N0 (g : n0 ≤ t)
  refine go_of (B := (T4.setTop (mkF m 44 #[.val (.ref t), .val (.int ((ii <<< ((1 : Int32) &&& 31)) + (1 : Int32))), .val (.int ch)] []))) (st4) ?_
  have V4 : Arv Z h4 t k .byte mm (vs.set ia (.int (own_b0 ch))) (.int 0) := by
    have q := Arv.set Ar3 q3 Sz3 Nn3 Hh3 G3 (fits_nar_byte _) W4 ia j0 l0
    rw [own_bb] at q
    exact q
  refine go_of (B := (T4.setTop (mkF m 47 #[.val (.ref t), .val (.int ((ii <<< ((1 : Int32) &&& 31)) + (1 : Int32))), .val (.int ch)] [(.int ch), (.int ((ii <<< ((1 : Int32) &&& 31)) + (1 : Int32))), (.ref t)]))) (fun _ kk => XS.aloadN X4.here hx rfl (hb hby d23_44) rfl rfl (XS.iloadN X4.here hx rfl (hb hby d23_45) rfl (XS.iloadN X4.here hx rfl (hb hby d23_46) rfl kk))) ?_
  have cf_5 := (O.wr W4 (by first | omega | exact own_ne (by omega) | exact own_le (by omega)))
  obtain ⟨T6, X6, e6, st6⟩ := getS2 X4 hx hZ hown (host := "") (Or.inl (wd 103 rfl)) Via.refl e4 (SU.2.2.ext cf_5.2) (g := (mkF m 47 #[.val (.ref t), .val (.int ((ii <<< ((1 : Int32) &&& 31)) + (1 : Int32))), .val (.int ch)] [(.int ch), (.int ((ii <<< ((1 : Int32) &&& 31)) + (1 : Int32))), (.ref t)])) rfl (hb hby d23_47)
  refine go_of (B := (T6.setTop (mkF m 50 #[.val (.ref t), .val (.int ((ii <<< ((1 : Int32) &&& 31)) + (1 : Int32))), .val (.int ch)] [(.int (8 : Int32)), (.int ch), (.int ((ii <<< ((1 : Int32) &&& 31)) + (1 : Int32))), (.ref t)]))) (st6) ?_
  refine go_of (B := (T6.setTop (mkF m 52 #[.val (.ref t), .val (.int ((ii <<< ((1 : Int32) &&& 31)) + (1 : Int32))), .val (.int ch)] [(.int ((ch >>> ((8 : Int32) &&& 31)).toInt8.toInt32)), (.int ((ii <<< ((1 : Int32) &&& 31)) + (1 : Int32))), (.ref t)]))) (fun _ kk => XS.ishr X6.here hx rfl (hb hby d23_50) rfl (XS.i2b X6.here hx rfl (hb hby d23_51) rfl kk)) ?_
  obtain ⟨cl7, Ar7, q7, Sz7, Nn7, Hh7, G7⟩ := id (V4)
  obtain ⟨T8, h8, X8, e8, W8, st8⟩ := stB X6 hx hZ e6 Ar7 (j := ((ii <<< ((1 : Int32) &&& 31)) + (1 : Int32))) (inb_of Sz7 b1) (g := (mkF m 52 #[.val (.ref t), .val (.int ((ii <<< ((1 : Int32) &&& 31)) + (1 : Int32))), .val (.int ch)] [(.int ((ch >>> ((8 : Int32) &&& 31)).toInt8.toInt32)), (.int ((ii <<< ((1 : Int32) &&& 31)) + (1 : Int32))), (.ref t)])) rfl rfl (hb hby d23_52)
  have sz8 := W8.size
  have N8 := Fr.snoc X8 N4 (g : n0 ≤ t)
  refine go_of (B := (T8.setTop (mkF m 53 #[.val (.ref t), .val (.int ((ii <<< ((1 : Int32) &&& 31)) + (1 : Int32))), .val (.int ch)] []))) (st8) ?_
  have V8 : Arv Z h8 t k .byte mm ((vs.set ia (.int (own_b0 ch))).set ib (.int (own_b1 ch))) (.int 0) := by
    have q := Arv.set Ar7 q7 Sz7 Nn7 Hh7 G7 (fits_nar_byte _) W8 ib j1 (by rw [List.length_set]; exact l1)
    rw [own_bb] at q
    exact q
  refine go_end X8 (v := none) (fun _ => rfl) Bd.notSynchronized (by decide) (by decide) (Q := (Q_u_put Z t ii ch mm vs ia ib k h0 n0)) ?_ (fun fs hr => X8.returnOut hx Bd.returns (hb hby d23_53) hr)
  unfold Q_u_put
  try rw [e8]
  exact ⟨rfl, N8, (((Keep.refl h0 [t]).wr W4 (Or.inl (List.mem_of_getElem? (i := 0) rfl))).wr W8 (Or.inl (List.mem_of_getElem? (i := 0) rfl))), V8⟩
theorem d20_0 : decode jdk_52_method_14_code 0 = .ok (.iload_n 2, 1) := by decide +kernel
theorem d20_1 : decode jdk_52_method_14_code 1 = .ok (.invokestatic 107, 3) := by decide +kernel
theorem pd__I__B : parseMethodDescriptor "(I)[B" = some ⟨[.int], some (.array .byte)⟩ := by decide +kernel
theorem d20_4 : decode jdk_52_method_14_code 4 = .ok (.astore_n 3, 1) := by decide +kernel
theorem d20_5 : decode jdk_52_method_14_code 5 = .ok (.iconst 0, 1) := by decide +kernel
theorem d20_6 : decode jdk_52_method_14_code 6 = .ok (.istore 4, 2) := by decide +kernel
theorem d20_8 : decode jdk_52_method_14_code 8 = .ok (.iload 4, 2) := by decide +kernel
theorem d20_10 : decode jdk_52_method_14_code 10 = .ok (.iload_n 2, 1) := by decide +kernel
theorem d20_11 : decode jdk_52_method_14_code 11 = .ok (.if_icmp .ge 21, 3) := by decide +kernel
theorem d20_14 : decode jdk_52_method_14_code 14 = .ok (.aload_n 3, 1) := by decide +kernel
theorem d20_15 : decode jdk_52_method_14_code 15 = .ok (.iload 4, 2) := by decide +kernel
theorem d20_17 : decode jdk_52_method_14_code 17 = .ok (.aload_n 0, 1) := by decide +kernel
theorem d20_18 : decode jdk_52_method_14_code 18 = .ok (.iload_n 1, 1) := by decide +kernel
theorem d20_19 : decode jdk_52_method_14_code 19 = .ok (.caload, 1) := by decide +kernel
theorem d20_20 : decode jdk_52_method_14_code 20 = .ok (.invokestatic 111, 3) := by decide +kernel
theorem pd___BII_V : parseMethodDescriptor "([BII)V" = some ⟨[(.array .byte), .int, .int], none⟩ := by decide +kernel
theorem d20_23 : decode jdk_52_method_14_code 23 = .ok (.iinc 1 1, 3) := by decide +kernel
theorem d20_26 : decode jdk_52_method_14_code 26 = .ok (.iinc 4 1, 3) := by decide +kernel
theorem d20_29 : decode jdk_52_method_14_code 29 = .ok (.goto (-21), 3) := by decide +kernel
theorem d20_32 : decode jdk_52_method_14_code 32 = .ok (.aload_n 3, 1) := by decide +kernel
theorem d20_33 : decode jdk_52_method_14_code 33 = .ok (.areturn, 1) := by decide +kernel
def Q_u_tob_1 (Z : State) (s' : Addr) (c0 : Int32) (ks : ClassId) (h0 : Heap) (n0 : Nat) (v : Option Value) (h : Heap) (L : List Loc) : Prop := ∃ (t : Addr) (k : ClassId), v = some (.ref t) ∧ Fr n0 L ∧ h0.size ≤ t ∧ Keep h0 h [] ∧ Arv Z h t k .byte 2 [(.int (own_b0 c0)), (.int (own_b1 c0))] (.int 0)
theorem ef_u_tob_1 (m : MethodId) (s' : Addr)  : entryFrame m #[(.ref s'), (.int (0 : Int32)), (.int (1 : Int32))] 5 = mkF m 0 #[.val (.ref s'), .val (.int (0 : Int32)), .val (.int (1 : Int32)), .unset, .unset] [] := by first | (simp [entryFrame, mkF, argsToLocals, Value.category]; done) | rfl
theorem u_tob_1 (l : Launch) (Z : State) (a0 : Array Value) (hw : TW a0 Z) (ws : List Cond) (s' : Addr) (c0 : Int32) (ks : ClassId) (h0 : Heap) (n0 : Nat) (Z0 : n0 ≤ h0.size) (O : Old Z n0 h0) (SU : US Z) (Vs : Arv Z h0 s' ks .char 1 [(.int c0)] (.int 0)) :
    own_MF l Z MN26 jdk_52_method_14_code 5 (some (.array .byte)) ws (own_R 2 1 2 24) #[(.ref s'), (.int (0 : Int32)), (.int (1 : Int32))] h0 (Q_u_tob_1 Z s' c0 ks h0 n0) := by
  have wd := @own_wd _ _ hw
  refine MetFree.of_bodySF (plainFor_of_name pn_java_lang_StringUTF16) hisR ?_
  intro p e s m args below meth c s₁ Bd hml0 hP hK
  obtain ⟨rfl, hZ, hh⟩ := hP
  have hx := Bd.exec
  have hby := Bd.bytes
  have hml : c.maxLocals = 5 := hml0
  have hown : s.vm.findClass "java/lang/StringUTF16" = some m.cls := findClass_of_methodNamed Bd.named
  have hnm := (name_of_methodNamed Bd.named Bd.method).1
  have X0 : Stand p l e (own_R 2 1 2 24) s m #[(.ref s'), (.int (0 : Int32)), (.int (1 : Int32))] below meth c s₁ [] 0 0 := Stand.of_body Bd
  have e0 : s₁.heap = h0 := by rw [← hh, Bd.state]; rfl
  have N0 := Fr.nil n0
  have lts := own_nlt (Vs.lt)
  refine go_of (A := s₁.setTop (entryFrame m #[(.ref s'), (.int (0 : Int32)), (.int (1 : Int32))] 5)) (B := s₁.setTop (mkF m 0 #[.val (.ref s'), .val (.int (0 : Int32)), .val (.int (1 : Int32)), .unset, .unset] [])) (fun _ kk' => castTop (ef_u_tob_1 m s') kk') ?_
  refine go_of (B := (s₁.setTop (mkF m 1 #[.val (.ref s'), .val (.int (0 : Int32)), .val (.int (1 : Int32)), .unset, .unset] [(.int (1 : Int32))]))) (fun _ kk => XS.iloadN X0.here hx rfl (hb hby d20_0) rfl kk) ?_
  obtain ⟨_, _, ⟨T1, L1, k1, n1⟩, -, X1, ⟨Lc1, hQ1, l1, y1, z1⟩, st1⟩ := Jvm.LawKit.callS X0 hx (y := MN23) hown (mvT hZ (wd 91 rfl)) (mvT hZ (wd 92 rfl)) (mvT hZ (wd 77 rfl)) (mvT hZ (wd 93 rfl)) (by decide) (backOf (W := 0) (u_nbf_1 l Z a0 hw [] h0 n0 (by omega)) hZ (wd 93 rfl) (wd 77 rfl) (by decide) (by decide)) (g := (mkF m 1 #[.val (.ref s'), .val (.int (0 : Int32)), .val (.int (1 : Int32)), .unset, .unset] [(.int (1 : Int32))])) rfl (by rw [hml]; rfl) (argsL := [(.int (1 : Int32))]) (rest := []) (lenOf pd__I__B rfl) rfl (Nat.le_of_eq rfl) (hb hby d20_1) (fun _ _ => ⟨rfl, e0, (by decide : 0 + 1 ≤ _), (by decide : 0 + 2 ≤ _)⟩)
  dsimp only [Pt.U, Pt.locs, Pt.cells, Pt.slots] at X1 l1 y1 z1 st1 hQ1
  subst l1 y1 z1
  obtain ⟨b1, k1, rfl, N1q, lo1, K1, V1⟩ := hQ1
  have lo1 := own_nle lo1
  have N1 := Fr.app N0 N1q
  have hi1 := own_nlt (V1.lt)
  have sz1 := K1.1
  refine go_of (B := (T1.setTop (mkF m 4 #[.val (.ref s'), .val (.int (0 : Int32)), .val (.int (1 : Int32)), .unset, .unset] [(.ref b1)]))) (st1) ?_
  refine go_of (B := (T1.setTop (mkF m 14 #[.val (.ref s'), .val (.int (0 : Int32)), .val (.int (1 : Int32)), .val (.ref b1), .val (.int (0 : Int32))] []))) (fun _ kk => XS.astoreN X1.here hx rfl (hb hby d20_4) rfl rfl rfl (XS.iconst X1.here hx rfl (hb hby d20_5) (XS.istore X1.here hx rfl (hb hby d20_6) rfl rfl (XS.iload X1.here hx rfl (hb hby d20_8) rfl (XS.iloadN X1.here hx rfl (hb hby d20_10) rfl (XS.icmpNo X1.here hx rfl (hb hby d20_11) rfl (tlt (by decide : (0 : Int32) < (1 : Int32))).2.1 kk)))))) ?_
  refine go_of (B := (T1.setTop (mkF m 19 #[.val (.ref s'), .val (.int (0 : Int32)), .val (.int (1 : Int32)), .val (.ref b1), .val (.int (0 : Int32))] [(.int (0 : Int32)), (.ref s'), (.int (0 : Int32)), (.ref b1)]))) (fun _ kk => XS.aloadN X1.here hx rfl (hb hby d20_14) rfl rfl (XS.iload X1.here hx rfl (hb hby d20_15) rfl (XS.aloadN X1.here hx rfl (hb hby d20_17) rfl rfl (XS.iloadN X1.here hx rfl (hb hby d20_18) rfl kk)))) ?_
  have cf_2 := (Vs.keep K1 nin0)
  obtain ⟨cl3, Ar3, q3, Sz3, Nn3, Hh3, G3⟩ := id (cf_2)
  refine go_of (B := (T1.setTop (mkF m 20 #[.val (.ref s'), .val (.int (0 : Int32)), .val (.int (1 : Int32)), .val (.ref b1), .val (.int (0 : Int32))] [(.int c0), (.int (0 : Int32)), (.ref b1)]))) (fun _ kk => X1.caload hx (j := (0 : Int32)) (v := (.int c0)) (by exact Ar3.1) (State.isArrayOf_alike hZ.alike Ar3.2.1) Ar3.2.2 (inb_of Sz3 ⟨by decide, by decide⟩) (Hh3.at (inb_of Sz3 ⟨by decide, by decide⟩) rfl) (g := (mkF m 19 #[.val (.ref s'), .val (.int (0 : Int32)), .val (.int (1 : Int32)), .val (.ref b1), .val (.int (0 : Int32))] [(.int (0 : Int32)), (.ref s'), (.int (0 : Int32)), (.ref b1)])) rfl rfl (hb hby d20_19) _ kk) ?_
  have cf_4 := (O.keep K1 all0)
  obtain ⟨_, _, ⟨T5, L5, k5, n5⟩, -, X5, ⟨Lc5, hQ5, l5, y5, z5⟩, st5⟩ := Jvm.LawKit.callS X1 hx (y := MN25) hown (mvT hZ (wd 98 rfl)) (mvT hZ (wd 99 rfl)) (mvT hZ (wd 77 rfl)) (mvT hZ (wd 100 rfl)) (by decide) (backOf (W := 0) (u_put l Z a0 hw [] b1 (0 : Int32) c0 (2 : Int32) _ 0 1 k1 T1.heap n0 (by omega) cf_4 SU V1 (by first | omega | exact own_ne (by omega) | exact own_le (by omega)) (by decide) (by decide) rfl rfl (Nat.le_of_ble_eq_true rfl) (Nat.le_of_ble_eq_true rfl)) hZ (wd 100 rfl) (wd 77 rfl) (by decide) (by decide)) (g := (mkF m 20 #[.val (.ref s'), .val (.int (0 : Int32)), .val (.int (1 : Int32)), .val (.ref b1), .val (.int (0 : Int32))] [(.int c0), (.int (0 : Int32)), (.ref b1)])) rfl (by rw [hml]; rfl) (argsL := [(.ref b1), (.int (0 : Int32)), (.int c0)]) (rest := []) (lenOf pd___BII_V rfl) rfl (Nat.le_of_eq rfl) (hb hby d20_20) (fun _ _ => ⟨rfl, rfl, (by decide : 1 + 0 ≤ _), (by decide : 2 + 0 ≤ _)⟩)
  dsimp only [Pt.U, Pt.locs, Pt.cells, Pt.slots] at X5 l5 y5 z5 st5 hQ5
  subst l5 y5 z5
  obtain ⟨rfl, N5q, K5, V5⟩ := hQ5
  have N5 := Fr.app N1 N5q
  have sz5 := K5.1
  refine go_of (B := (T5.setTop (mkF m 23 #[.val (.ref s'), .val (.int (0 : Int32)), .val (.int (1 : Int32)), .val (.ref b1), .val (.int (0 : Int32))] []))) (st5) ?_
  refine go_of (B := (T5.setTop (mkF m 32 #[.val (.ref s'), .val (.int (1 : Int32)), .val (.int (1 : Int32)), .val (.ref b1), .val (.int (1 : Int32))] []))) (fun _ kk => XS.iinc X5.here hx rfl (hb hby d20_23) rfl rfl (XS.iinc X5.here hx rfl (hb hby d20_26) rfl rfl (XS.goto X5.here hx rfl (pc0 := 29) (pc' := 8) rfl (hb hby d20_29) (by decide) (by decide) (XS.iload X5.here hx rfl (hb hby d20_8) rfl (XS.iloadN X5.here hx rfl (hb hby d20_10) rfl (XS.icmpYes X5.here hx rfl (pc0 := 11) (pc' := 32) rfl (hb hby d20_11) rfl (flt (by decide : ¬ ((1 : Int32) < (1 : Int32)))).2.1 (by decide) (by decide) kk)))))) ?_
  refine go_of (B := (T5.setTop (mkF m 33 #[.val (.ref s'), .val (.int (1 : Int32)), .val (.int (1 : Int32)), .val (.ref b1), .val (.int (1 : Int32))] [(.ref b1)]))) (fun _ kk => XS.aloadN X5.here hx rfl (hb hby d20_32) rfl rfl kk) ?_
  refine go_end X5 (v := some (.ref b1)) (fun h => by rw [Bd.returns] at h; cases h) Bd.notSynchronized (by decide) (by decide) (Q := (Q_u_tob_1 Z s' c0 ks h0 n0)) ?_ (fun fs hr => own_retA X5 hx Bd.returns rfl rfl (hb hby d20_33) hr)
  unfold Q_u_tob_1
  exact ⟨b1, k1, rfl, N5, by omega, (((Keep.refl h0 []).trans K1 all0).trans K5 (allS (Or.inr (by first | omega | exact own_ne (by omega) | exact own_le (by omega))) all0)), V5⟩
theorem d16_0 : decode jdk_52_method_16_code 0 = .ok (.iload_n 2, 1) := by decide +kernel
theorem d16_1 : decode jdk_52_method_16_code 1 = .ok (.newarray .byte, 2) := by decide +kernel
theorem d16_3 : decode jdk_52_method_16_code 3 = .ok (.astore_n 3, 1) := by decide +kernel
theorem d16_4 : decode jdk_52_method_16_code 4 = .ok (.aload_n 0, 1) := by decide +kernel
theorem d16_5 : decode jdk_52_method_16_code 5 = .ok (.iload_n 1, 1) := by decide +kernel
theorem d16_6 : decode jdk_52_method_16_code 6 = .ok (.aload_n 3, 1) := by decide +kernel
theorem d16_7 : decode jdk_52_method_16_code 7 = .ok (.iconst 0, 1) := by decide +kernel
theorem d16_8 : decode jdk_52_method_16_code 8 = .ok (.iload_n 2, 1) := by decide +kernel
theorem d16_9 : decode jdk_52_method_16_code 9 = .ok (.invokestatic 115, 3) := by decide +kernel
theorem pd___CI_BII_I : parseMethodDescriptor "([CI[BII)I" = some ⟨[(.array .char), .int, (.array .byte), .int, .int], some .int⟩ := by decide +kernel
theorem d16_12 : decode jdk_52_method_16_code 12 = .ok (.istore 4, 2) := by decide +kernel
theorem d16_14 : decode jdk_52_method_16_code 14 = .ok (.iload 4, 2) := by decide +kernel
theorem d16_16 : decode jdk_52_method_16_code 16 = .ok (.iload_n 2, 1) := by decide +kernel
theorem d16_17 : decode jdk_52_method_16_code 17 = .ok (.if_icmp .eq 40, 3) := by decide +kernel
theorem d16_57 : decode jdk_52_method_16_code 57 = .ok (.aload_n 3, 1) := by decide +kernel
theorem d16_58 : decode jdk_52_method_16_code 58 = .ok (.areturn, 1) := by decide +kernel
def Q_u_c3_1 (Z : State) (s' : Addr) (c0 : Int32) (ks : ClassId) (h0 : Heap) (n0 : Nat) (v : Option Value) (h : Heap) (L : List Loc) : Prop := ∃ (t : Addr) (k : ClassId), v = some (.ref t) ∧ Fr n0 L ∧ h0.size ≤ t ∧ Keep h0 h [] ∧ ((¬ (255 : Int32) < c0 ∧ Arv Z h t k .byte 1 [(.int (own_b8 c0))] (.int 0)) ∨ Arv Z h t k .byte 2 [(.int (own_b0 c0)), (.int (own_b1 c0))] (.int 0))
theorem d16_20 : decode jdk_52_method_16_code 20 = .ok (.aload_n 0, 1) := by decide +kernel
theorem d16_21 : decode jdk_52_method_16_code 21 = .ok (.iload_n 1, 1) := by decide +kernel
theorem d16_22 : decode jdk_52_method_16_code 22 = .ok (.iload_n 2, 1) := by decide +kernel
theorem d16_23 : decode jdk_52_method_16_code 23 = .ok (.invokestatic 119, 3) := by decide +kernel
theorem pd___CII__B : parseMethodDescriptor "([CII)[B" = some ⟨[(.array .char), .int, .int], some (.array .byte)⟩ := by decide +kernel
theorem d16_26 : decode jdk_52_method_16_code 26 = .ok (.astore 5, 2) := by decide +kernel
theorem d16_28 : decode jdk_52_method_16_code 28 = .ok (.aload 5, 2) := by decide +kernel
theorem d16_30 : decode jdk_52_method_16_code 30 = .ok (.iload 4, 2) := by decide +kernel
theorem d16_32 : decode jdk_52_method_16_code 32 = .ok (.invokestatic 71, 3) := by decide +kernel
theorem d16_35 : decode jdk_52_method_16_code 35 = .ok (.sipush 255, 3) := by decide +kernel
theorem d16_38 : decode jdk_52_method_16_code 38 = .ok (.if_icmp .gt 16, 3) := by decide +kernel
theorem d16_54 : decode jdk_52_method_16_code 54 = .ok (.aload 5, 2) := by decide +kernel
theorem d16_56 : decode jdk_52_method_16_code 56 = .ok (.areturn, 1) := by decide +kernel
theorem ef_u_c3_1 (m : MethodId) (s' : Addr)  : entryFrame m #[(.ref s'), (.int (0 : Int32)), (.int (1 : Int32))] 6 = mkF m 0 #[.val (.ref s'), .val (.int (0 : Int32)), .val (.int (1 : Int32)), .unset, .unset, .unset] [] := by first | (simp [entryFrame, mkF, argsToLocals, Value.category]; done) | rfl
theorem u_c3_1 (l : Launch) (Z : State) (a0 : Array Value) (hw : TW a0 Z) (ws : List Cond) (s' : Addr) (c0 : Int32) (ks : ClassId) (h0 : Heap) (n0 : Nat) (Z0 : n0 ≤ h0.size) (O : Old Z n0 h0) (SU : US Z) (Vs : Arv Z h0 s' ks .char 1 [(.int c0)] (.int 0)) (hc0 : ¬ c0 < 0 ∧ ¬ (65535 : Int32) < c0) :
    own_MF l Z MN17 jdk_52_method_16_code 6 (some (.array .byte)) ws (own_R 3 2 3 40) #[(.ref s'), (.int (0 : Int32)), (.int (1 : Int32))] h0 (Q_u_c3_1 Z s' c0 ks h0 n0) := by
  have wd := @own_wd _ _ hw
  refine MetFree.of_bodySF (plainFor_of_name pn_java_lang_StringUTF16) hisR ?_
  intro p e s m args below meth c s₁ Bd hml0 hP hK
  obtain ⟨rfl, hZ, hh⟩ := hP
  have hx := Bd.exec
  have hby := Bd.bytes
  have hml : c.maxLocals = 6 := hml0
  have hown : s.vm.findClass "java/lang/StringUTF16" = some m.cls := findClass_of_methodNamed Bd.named
  have hnm := (name_of_methodNamed Bd.named Bd.method).1
  have X0 : Stand p l e (own_R 3 2 3 40) s m #[(.ref s'), (.int (0 : Int32)), (.int (1 : Int32))] below meth c s₁ [] 0 0 := Stand.of_body Bd
  have e0 : s₁.heap = h0 := by rw [← hh, Bd.state]; rfl
  have N0 := Fr.nil n0
  have lts := own_nlt (Vs.lt)
  refine go_of (A := s₁.setTop (entryFrame m #[(.ref s'), (.int (0 : Int32)), (.int (1 : Int32))] 6)) (B := s₁.setTop (mkF m 0 #[.val (.ref s'), .val (.int (0 : Int32)), .val (.int (1 : Int32)), .unset, .unset, .unset] [])) (fun _ kk' => castTop (ef_u_c3_1 m s') kk') ?_
  refine go_of (B := (s₁.setTop (mkF m 1 #[.val (.ref s'), .val (.int (0 : Int32)), .val (.int (1 : Int32)), .unset, .unset, .unset] [(.int (1 : Int32))]))) (fun _ kk => XS.iloadN X0.here hx rfl (hb hby d16_0) rfl kk) ?_
  obtain ⟨T1, h1, k1, X1, e1, E1, A1, st1⟩ := newP X0 hx hZ (wd 21 rfl) e0 (g := (mkF m 1 #[.val (.ref s'), .val (.int (0 : Int32)), .val (.int (1 : Int32)), .unset, .unset, .unset] [(.int (1 : Int32))])) rfl (hb hby d16_1) rfl (by decide) (cap := 1) (by decide) (by decide) (by decide) (by decide)
  obtain ⟨b1, g1⟩ : ∃ z, z = h0.size := ⟨_, rfl⟩
  rw [← g1] at A1 st1
  have hi1 := own_nlt A1.lt
  have sz1 := E1.1
  have V1 : Arv Z h1 b1 k1 .byte (1 : Int32) [(.int (0 : Int32))] (.int (0 : Int32)) := (Arv.new A1 (by decide)).pad (pad_rep [] (.int (0 : Int32)) 1)
  refine go_of (B := (T1.setTop (mkF m 3 #[.val (.ref s'), .val (.int (0 : Int32)), .val (.int (1 : Int32)), .unset, .unset, .unset] [(.ref b1)]))) (st1) ?_
  refine go_of (B := (T1.setTop (mkF m 9 #[.val (.ref s'), .val (.int (0 : Int32)), .val (.int (1 : Int32)), .val (.ref b1), .unset, .unset] [(.int (1 : Int32)), (.int (0 : Int32)), (.ref b1), (.int (0 : Int32)), (.ref s')]))) (fun _ kk => XS.astoreN X1.here hx rfl (hb hby d16_3) rfl rfl rfl (XS.aloadN X1.here hx rfl (hb hby d16_4) rfl rfl (XS.iloadN X1.here hx rfl (hb hby d16_5) rfl (XS.aloadN X1.here hx rfl (hb hby d16_6) rfl rfl (XS.iconst X1.here hx rfl (hb hby d16_7) (XS.iloadN X1.here hx rfl (hb hby d16_8) rfl kk)))))) ?_
  have cf_2 := (Vs.ext E1)
  obtain ⟨_, _, ⟨T3, L3, k3, n3⟩, -, X3, ⟨Lc3, hQ3, l3, y3, z3⟩, st3⟩ := Jvm.LawKit.callS X1 hx (y := MN18) hown (mvT hZ (wd 79 rfl)) (mvT hZ (wd 80 rfl)) (mvT hZ (wd 77 rfl)) (mvT hZ (wd 81 rfl)) (by decide) (backOf (W := 0) (u_c5_1 l Z a0 hw [] s' b1 c0 ks k1 h1 n0 (by omega) cf_2 V1 (by first | omega | exact own_ne (by omega) | exact own_le (by omega)) (by first | omega | exact own_ne (by omega) | exact own_le (by omega))) hZ (wd 81 rfl) (wd 77 rfl) (by decide) (by decide)) (g := (mkF m 9 #[.val (.ref s'), .val (.int (0 : Int32)), .val (.int (1 : Int32)), .val (.ref b1), .unset, .unset] [(.int (1 : Int32)), (.int (0 : Int32)), (.ref b1), (.int (0 : Int32)), (.ref s')])) rfl (by rw [hml]; rfl) (argsL := [(.ref s'), (.int (0 : Int32)), (.ref b1), (.int (0 : Int32)), (.int (1 : Int32))]) (rest := []) (lenOf pd___CI_BII_I rfl) rfl (Nat.le_of_eq rfl) (hb hby d16_9) (fun _ _ => ⟨rfl, e1, (by decide : 1 + 0 ≤ _), (by decide : 1 + 0 ≤ _)⟩)
  dsimp only [Pt.U, Pt.locs, Pt.cells, Pt.slots] at X3 l3 y3 z3 st3 hQ3
  subst l3 y3 z3
  obtain ⟨r3, rfl, N3q, K3, H3⟩ := hQ3
  have N3 := Fr.app N0 N3q
  have sz3 := K3.1
  refine go_of (B := (T3.setTop (mkF m 12 #[.val (.ref s'), .val (.int (0 : Int32)), .val (.int (1 : Int32)), .val (.ref b1), .unset, .unset] [(.int r3)]))) (st3) ?_
  rcases H3 with ⟨rfl, hl0, V3⟩ | ⟨rfl, hg⟩
  · refine go_of (B := (T3.setTop (mkF m 58 #[.val (.ref s'), .val (.int (0 : Int32)), .val (.int (1 : Int32)), .val (.ref b1), .val (.int (1 : Int32)), .unset] [(.ref b1)]))) (fun _ kk => XS.istore X3.here hx rfl (hb hby d16_12) rfl rfl (XS.iload X3.here hx rfl (hb hby d16_14) rfl (XS.iloadN X3.here hx rfl (hb hby d16_16) rfl (XS.icmpYes X3.here hx rfl (pc0 := 17) (pc' := 57) rfl (hb hby d16_17) rfl (teq (by decide : (1 : Int32) = (1 : Int32))).1 (by decide) (by decide) (XS.aloadN X3.here hx rfl (hb hby d16_57) rfl rfl kk))))) ?_
    refine go_end X3 (v := some (.ref b1)) (fun h => by rw [Bd.returns] at h; cases h) Bd.notSynchronized (by decide) (by decide) (Q := (Q_u_c3_1 Z s' c0 ks h0 n0)) ?_ (fun fs hr => own_retA X3 hx Bd.returns rfl rfl (hb hby d16_58) hr)
    unfold Q_u_c3_1
    exact ⟨b1, k1, rfl, N3, by omega, (((Keep.refl h0 []).ext E1).trans K3 (allS (Or.inr (by first | omega | exact own_ne (by omega) | exact own_le (by omega))) all0)), Or.inl ⟨hl0, V3⟩⟩
  · refine go_of (B := (T3.setTop (mkF m 22 #[.val (.ref s'), .val (.int (0 : Int32)), .val (.int (1 : Int32)), .val (.ref b1), .val (.int (0 : Int32)), .unset] [(.int (0 : Int32)), (.ref s')]))) (fun _ kk => XS.istore X3.here hx rfl (hb hby d16_12) rfl rfl (XS.iload X3.here hx rfl (hb hby d16_14) rfl (XS.iloadN X3.here hx rfl (hb hby d16_16) rfl (XS.icmpNo X3.here hx rfl (hb hby d16_17) rfl (feq (by decide : ¬ ((0 : Int32) = (1 : Int32)))).1 (XS.aloadN X3.here hx rfl (hb hby d16_20) rfl rfl (XS.iloadN X3.here hx rfl (hb hby d16_21) rfl kk)))))) ?_
    refine go_of (B := (T3.setTop (mkF m 23 #[.val (.ref s'), .val (.int (0 : Int32)), .val (.int (1 : Int32)), .val (.ref b1), .val (.int (0 : Int32)), .unset] [(.int (1 : Int32)), (.int (0 : Int32)), (.ref s')]))) (fun _ kk => XS.iloadN X3.here hx rfl (hb hby d16_22) rfl kk) ?_
    have cf_4 := ((O.ext E1).keep K3 (allS (by first | omega | exact own_ne (by omega) | exact own_le (by omega)) all0))
    have cf_5 := (cf_2.keep K3 (ninS (by first | omega | exact own_ne (by omega) | exact own_le (by omega)) nin0))
    obtain ⟨_, _, ⟨T6, L6, k6, n6⟩, -, X6, ⟨Lc6, hQ6, l6, y6, z6⟩, st6⟩ := Jvm.LawKit.callS X3 hx (y := MN26) hown (mvT hZ (wd 88 rfl)) (mvT hZ (wd 89 rfl)) (mvT hZ (wd 77 rfl)) (mvT hZ (wd 90 rfl)) (by decide) (backOf (W := 0) (u_tob_1 l Z a0 hw [] s' c0 ks T3.heap n0 (by omega) cf_4 SU cf_5) hZ (wd 90 rfl) (wd 77 rfl) (by decide) (by decide)) (g := (mkF m 23 #[.val (.ref s'), .val (.int (0 : Int32)), .val (.int (1 : Int32)), .val (.ref b1), .val (.int (0 : Int32)), .unset] [(.int (1 : Int32)), (.int (0 : Int32)), (.ref s')])) rfl (by rw [hml]; rfl) (argsL := [(.ref s'), (.int (0 : Int32)), (.int (1 : Int32))]) (rest := []) (lenOf pd___CII__B rfl) rfl (Nat.le_of_eq rfl) (hb hby d16_23) (fun _ _ => ⟨rfl, rfl, (by decide : 1 + 1 ≤ _), (by decide : 1 + 2 ≤ _)⟩)
    dsimp only [Pt.U, Pt.locs, Pt.cells, Pt.slots] at X6 l6 y6 z6 st6 hQ6
    subst l6 y6 z6
    obtain ⟨b6, k6, rfl, N6q, lo6, K6, V6⟩ := hQ6
    have lo6 := own_nle lo6
    have N6 := Fr.app N3 N6q
    have hi6 := own_nlt (V6.lt)
    have sz6 := K6.1
    refine go_of (B := (T6.setTop (mkF m 26 #[.val (.ref s'), .val (.int (0 : Int32)), .val (.int (1 : Int32)), .val (.ref b1), .val (.int (0 : Int32)), .unset] [(.ref b6)]))) (st6) ?_
    refine go_of (B := (T6.setTop (mkF m 32 #[.val (.ref s'), .val (.int (0 : Int32)), .val (.int (1 : Int32)), .val (.ref b1), .val (.int (0 : Int32)), .val (.ref b6)] [(.int (0 : Int32)), (.ref b6)]))) (fun _ kk => XS.astore X6.here hx rfl (hb hby d16_26) rfl rfl rfl (XS.aload X6.here hx rfl (hb hby d16_28) rfl rfl (XS.iload X6.here hx rfl (hb hby d16_30) rfl kk))) ?_
    have cf_7 := (cf_4.keep K6 all0)
    obtain ⟨_, _, ⟨T8, L8, k8, n8⟩, -, X8, ⟨Lc8, hQ8, l8, y8, z8⟩, st8⟩ := Jvm.LawKit.callS X6 hx (y := MN19) hown (mvT hZ (wd 104 rfl)) (mvT hZ (wd 105 rfl)) (mvT hZ (wd 77 rfl)) (mvT hZ (wd 106 rfl)) (by decide) (backOf (W := 0) (u_get l Z a0 hw [] b6 (0 : Int32) (2 : Int32) _ c0 k6 T6.heap n0 (by omega) cf_7 SU V6 (by decide) (by decide) rfl rfl hc0) hZ (wd 106 rfl) (wd 77 rfl) (by decide) (by decide)) (g := (mkF m 32 #[.val (.ref s'), .val (.int (0 : Int32)), .val (.int (1 : Int32)), .val (.ref b1), .val (.int (0 : Int32)), .val (.ref b6)] [(.int (0 : Int32)), (.ref b6)])) rfl (by rw [hml]; rfl) (argsL := [(.ref b6), (.int (0 : Int32))]) (rest := []) (lenOf pd___BI_C rfl) rfl (Nat.le_of_eq rfl) (hb hby d16_32) (fun _ _ => ⟨rfl, rfl, (by decide : 2 + 0 ≤ _), (by decide : 3 + 0 ≤ _)⟩)
    dsimp only [Pt.U, Pt.locs, Pt.cells, Pt.slots] at X8 l8 y8 z8 st8 hQ8
    subst l8 y8 z8
    obtain ⟨rfl, N8q, e8⟩ := hQ8
    have N8 := Fr.app N6 N8q
    refine go_of (B := (T8.setTop (mkF m 35 #[.val (.ref s'), .val (.int (0 : Int32)), .val (.int (1 : Int32)), .val (.ref b1), .val (.int (0 : Int32)), .val (.ref b6)] [(.int c0)]))) (st8) ?_
    refine go_of (B := (T8.setTop (mkF m 56 #[.val (.ref s'), .val (.int (0 : Int32)), .val (.int (1 : Int32)), .val (.ref b1), .val (.int (0 : Int32)), .val (.ref b6)] [(.ref b6)]))) (fun _ kk => XS.sipush X8.here hx rfl (hb hby d16_35) (XS.icmpYes X8.here hx rfl (pc0 := 38) (pc' := 54) rfl (hb hby d16_38) rfl (tlt hg).2.2.1 (by decide) (by decide) (XS.aload X8.here hx rfl (hb hby d16_54) rfl rfl kk))) ?_
    refine go_end X8 (v := some (.ref b6)) (fun h => by rw [Bd.returns] at h; cases h) Bd.notSynchronized (by decide) (by decide) (Q := (Q_u_c3_1 Z s' c0 ks h0 n0)) ?_ (fun fs hr => own_retA X8 hx Bd.returns rfl rfl (hb hby d16_56) hr)
    unfold Q_u_c3_1
    try rw [e8]
    exact ⟨b6, k6, rfl, N8, by omega, ((((Keep.refl h0 []).ext E1).trans K3 (allS (Or.inr (by first | omega | exact own_ne (by omega) | exact own_le (by omega))) all0)).trans K6 all0), Or.inr V6⟩
theorem d18_0 : decode jdk_52_method_15_code 0 = .ok (.iload_n 1, 1) := by decide +kernel
theorem d18_1 : decode jdk_52_method_15_code 1 = .ok (.aload_n 0, 1) := by decide +kernel
theorem d18_2 : decode jdk_52_method_15_code 2 = .ok (.arraylength, 1) := by decide +kernel
theorem d18_3 : decode jdk_52_method_15_code 3 = .ok (.isub, 1) := by decide +kernel
theorem d18_4 : decode jdk_52_method_15_code 4 = .ok (.bipush 31, 2) := by decide +kernel
theorem d18_6 : decode jdk_52_method_15_code 6 = .ok (.iushr, 1) := by decide +kernel
theorem d18_7 : decode jdk_52_method_15_code 7 = .ok (.i2b, 1) := by decide +kernel
theorem d18_8 : decode jdk_52_method_15_code 8 = .ok (.ireturn, 1) := by decide +kernel
def Q_str_cf_1 (Z : State) (t : Addr) (k : ClassId) (vs : List Value) (h0 : Heap) (n0 : Nat) (v : Option Value) (h : Heap) (L : List Loc) : Prop := v = some (.int 0) ∧ Fr n0 L ∧ h = h0
theorem ef_str_cf_1 (m : MethodId) (t : Addr)  : entryFrame m #[(.ref t), (.int (1 : Int32))] 2 = mkF m 0 #[.val (.ref t), .val (.int (1 : Int32))] [] := by first | (simp [entryFrame, mkF, argsToLocals, Value.category]; done) | rfl
theorem str_cf_1 (l : Launch) (Z : State) (a0 : Array Value) (hw : TW a0 Z) (ws : List Cond) (t : Addr) (k : ClassId) (vs : List Value) (h0 : Heap) (n0 : Nat) (Z0 : n0 ≤ h0.size) (V : Arv Z h0 t k .byte 1 vs (.int 0)) :
    own_MF l Z MN16 jdk_52_method_15_code 2 (some .byte) ws (own_R 0 0 0 0) #[(.ref t), (.int (1 : Int32))] h0 (Q_str_cf_1 Z t k vs h0 n0) := by
  have wd := @own_wd _ _ hw
  refine MetFree.of_bodySF (plainFor_of_name pn_java_lang_StringUTF16) hisR ?_
  intro p e s m args below meth c s₁ Bd hml0 hP hK
  obtain ⟨rfl, hZ, hh⟩ := hP
  have hx := Bd.exec
  have hby := Bd.bytes
  have hml : c.maxLocals = 2 := hml0
  have hown : s.vm.findClass "java/lang/StringUTF16" = some m.cls := findClass_of_methodNamed Bd.named
  have hnm := (name_of_methodNamed Bd.named Bd.method).1
  have X0 : Stand p l e (own_R 0 0 0 0) s m #[(.ref t), (.int (1 : Int32))] below meth c s₁ [] 0 0 := Stand.of_body Bd
  have e0 : s₁.heap = h0 := by rw [← hh, Bd.state]; rfl
  have N0 := Fr.nil n0
  refine go_of (A := s₁.setTop (entryFrame m #[(.ref t), (.int (1 : Int32))] 2)) (B := s₁.setTop (mkF m 0 #[.val (.ref t), .val (.int (1 : Int32))] [])) (fun _ kk' => castTop (ef_str_cf_1 m t) kk') ?_
  refine go_of (B := (s₁.setTop (mkF m 2 #[.val (.ref t), .val (.int (1 : Int32))] [(.ref t), (.int (1 : Int32))]))) (fun _ kk => XS.iloadN X0.here hx rfl (hb hby d18_0) rfl (XS.aloadN X0.here hx rfl (hb hby d18_1) rfl rfl kk)) ?_
  obtain ⟨cl1, Ar1, q1, Sz1, Nn1, Hh1, G1⟩ := id (V)
  have ln1 := len_of Sz1 Nn1
  refine go_of (B := (s₁.setTop (mkF m 3 #[.val (.ref t), .val (.int (1 : Int32))] [(.int (1 : Int32)), (.int (1 : Int32))]))) (fun _ kk => X0.arraylength hx (by rw [e0]; exact Ar1.1) (State.isArrayOf_alike hZ.alike Ar1.2.1) (g := (mkF m 2 #[.val (.ref t), .val (.int (1 : Int32))] [(.ref t), (.int (1 : Int32))])) rfl rfl (hb hby d18_2) _ (by rw [ln1]; exact kk)) ?_
  refine go_of (B := (s₁.setTop (mkF m 8 #[.val (.ref t), .val (.int (1 : Int32))] [(.int (0 : Int32))]))) (fun _ kk => XS.isub X0.here hx rfl (hb hby d18_3) rfl (XS.bipush X0.here hx rfl (hb hby d18_4) (XS.iushr X0.here hx rfl (hb hby d18_6) rfl (XS.i2b X0.here hx rfl (hb hby d18_7) rfl kk)))) ?_
  refine go_end X0 (v := some (.int (nar .byte (0 : Int32)))) (fun h => by rw [Bd.returns] at h; cases h) Bd.notSynchronized (by decide) (by decide) (Q := (Q_str_cf_1 Z t k vs h0 n0)) ?_ (fun fs hr => retN X0 hx (t := .byte) Bd.returns (by simp) (hb hby d18_8) hr)
  unfold Q_str_cf_1
  try rw [e0]
  exact ⟨rfl, N0, rfl⟩
def Q_u_cf_1 (Z : State) (t : Addr) (k : ClassId) (vs : List Value) (h0 : Heap) (n0 : Nat) (v : Option Value) (h : Heap) (L : List Loc) : Prop := v = some (.int 1) ∧ Fr n0 L ∧ h = h0
theorem ef_u_cf_1 (m : MethodId) (t : Addr)  : entryFrame m #[(.ref t), (.int (1 : Int32))] 2 = mkF m 0 #[.val (.ref t), .val (.int (1 : Int32))] [] := by first | (simp [entryFrame, mkF, argsToLocals, Value.category]; done) | rfl
theorem u_cf_1 (l : Launch) (Z : State) (a0 : Array Value) (hw : TW a0 Z) (ws : List Cond) (t : Addr) (k : ClassId) (vs : List Value) (h0 : Heap) (n0 : Nat) (Z0 : n0 ≤ h0.size) (V : Arv Z h0 t k .byte 2 vs (.int 0)) :
    own_MF l Z MN16 jdk_52_method_15_code 2 (some .byte) ws (own_R 0 0 0 0) #[(.ref t), (.int (1 : Int32))] h0 (Q_u_cf_1 Z t k vs h0 n0) := by
  have wd := @own_wd _ _ hw
  refine MetFree.of_bodySF (plainFor_of_name pn_java_lang_StringUTF16) hisR ?_
  intro p e s m args below meth c s₁ Bd hml0 hP hK
  obtain ⟨rfl, hZ, hh⟩ := hP
  have hx := Bd.exec
  have hby := Bd.bytes
  have hml : c.maxLocals = 2 := hml0
  have hown : s.vm.findClass "java/lang/StringUTF16" = some m.cls := findClass_of_methodNamed Bd.named
  have hnm := (name_of_methodNamed Bd.named Bd.method).1
  have X0 : Stand p l e (own_R 0 0 0 0) s m #[(.ref t), (.int (1 : Int32))] below meth c s₁ [] 0 0 := Stand.of_body Bd
  have e0 : s₁.heap = h0 := by rw [← hh, Bd.state]; rfl
  have N0 := Fr.nil n0
  refine go_of (A := s₁.setTop (entryFrame m #[(.ref t), (.int (1 : Int32))] 2)) (B := s₁.setTop (mkF m 0 #[.val (.ref t), .val (.int (1 : Int32))] [])) (fun _ kk' => castTop (ef_u_cf_1 m t) kk') ?_
  refine go_of (B := (s₁.setTop (mkF m 2 #[.val (.ref t), .val (.int (1 : Int32))] [(.ref t), (.int (1 : Int32))]))) (fun _ kk => XS.iloadN X0.here hx rfl (hb hby d18_0) rfl (XS.aloadN X0.here hx rfl (hb hby d18_1) rfl rfl kk)) ?_
  obtain ⟨cl1, Ar1, q1, Sz1, Nn1, Hh1, G1⟩ := id (V)
  have ln1 := len_of Sz1 Nn1
  refine go_of (B := (s₁.setTop (mkF m 3 #[.val (.ref t), .val (.int (1 : Int32))] [(.int (2 : Int32)), (.int (1 : Int32))]))) (fun _ kk => X0.arraylength hx (by rw [e0]; exact Ar1.1) (State.isArrayOf_alike hZ.alike Ar1.2.1) (g := (mkF m 2 #[.val (.ref t), .val (.int (1 : Int32))] [(.ref t), (.int (1 : Int32))])) rfl rfl (hb hby d18_2) _ (by rw [ln1]; exact kk)) ?_
  refine go_of (B := (s₁.setTop (mkF m 8 #[.val (.ref t), .val (.int (1 : Int32))] [(.int (1 : Int32))]))) (fun _ kk => XS.isub X0.here hx rfl (hb hby d18_3) rfl (XS.bipush X0.here hx rfl (hb hby d18_4) (XS.iushr X0.here hx rfl (hb hby d18_6) rfl (XS.i2b X0.here hx rfl (hb hby d18_7) rfl kk)))) ?_
  refine go_end X0 (v := some (.int (nar .byte (1 : Int32)))) (fun h => by rw [Bd.returns] at h; cases h) Bd.notSynchronized (by decide) (by decide) (Q := (Q_u_cf_1 Z t k vs h0 n0)) ?_ (fun fs hr => retN X0 hx (t := .byte) Bd.returns (by simp) (hb hby d18_8) hr)
  unfold Q_u_cf_1
  try rw [e0]
  exact ⟨rfl, N0, rfl⟩
theorem d3_27 : decode jdk_42_method_149_code 27 = .ok (.getstatic 38, 3) := by decide +kernel
theorem d3_30 : decode jdk_42_method_149_code 30 = .ok (.ifCond .eq 28, 3) := by decide +kernel
theorem d3_33 : decode jdk_42_method_149_code 33 = .ok (.aload_n 1, 1) := by decide +kernel
theorem d3_34 : decode jdk_42_method_149_code 34 = .ok (.iload_n 2, 1) := by decide +kernel
theorem d3_35 : decode jdk_42_method_149_code 35 = .ok (.iload_n 3, 1) := by decide +kernel
theorem d3_36 : decode jdk_42_method_149_code 36 = .ok (.invokestatic 177, 3) := by decide +kernel
theorem d3_39 : decode jdk_42_method_149_code 39 = .ok (.astore 5, 2) := by decide +kernel
theorem d3_41 : decode jdk_42_method_149_code 41 = .ok (.aload_n 0, 1) := by decide +kernel
theorem d3_42 : decode jdk_42_method_149_code 42 = .ok (.aload 5, 2) := by decide +kernel
theorem d3_44 : decode jdk_42_method_149_code 44 = .ok (.iload_n 3, 1) := by decide +kernel
theorem d3_45 : decode jdk_42_method_149_code 45 = .ok (.invokestatic 47, 3) := by decide +kernel
theorem pd___BI_B : parseMethodDescriptor "([BI)B" = some ⟨[(.array .byte), .int], some .byte⟩ := by decide +kernel
theorem d3_48 : decode jdk_42_method_149_code 48 = .ok (.putfield 15, 3) := by decide +kernel
theorem d3_51 : decode jdk_42_method_149_code 51 = .ok (.aload_n 0, 1) := by decide +kernel
theorem d3_52 : decode jdk_42_method_149_code 52 = .ok (.aload 5, 2) := by decide +kernel
theorem d3_54 : decode jdk_42_method_149_code 54 = .ok (.putfield 9, 3) := by decide +kernel
theorem d3_57 : decode jdk_42_method_149_code 57 = .ok (.return_, 1) := by decide +kernel
def Q_u_i4_1 (Z : State) (a : Addr) (s' : Addr) (c0 : Int32) (ks : ClassId) (gC : Int32) (u : Value) (u2 : Value) (h0 : Heap) (n0 : Nat) (v : Option Value) (h : Heap) (L : List Loc) : Prop := v = none ∧ Fr n0 L ∧ Keep h0 h [a] ∧ StrU Z h a 1 2 [c0]
theorem ef_u_i4_1 (m : MethodId) (a : Addr) (s' : Addr)  : entryFrame m #[(.ref a), (.ref s'), (.int (0 : Int32)), (.int (1 : Int32)), .null] 6 = mkF m 0 #[.val (.ref a), .val (.ref s'), .val (.int (0 : Int32)), .val (.int (1 : Int32)), .val .null, .unset] [] := by first | (simp [entryFrame, mkF, argsToLocals, Value.category]; done) | rfl
theorem u_i4_1 (l : Launch) (Z : State) (a0 : Array Value) (hw : TW a0 Z) (ws : List Cond) (a : Addr) (s' : Addr) (c0 : Int32) (ks : ClassId) (gC : Int32) (u : Value) (u2 : Value) (h0 : Heap) (n0 : Nat) (Z0 : n0 ≤ h0.size) (O : Old Z n0 h0) (SC : Sta Z Z.heap "java/lang/String" "COMPACT_STRINGS" "Z" (.int gC)) (hgC : ¬ gC = (0 : Int32)) (SU : US Z) (E : Exa Z h0 a "java/lang/String") (F : Fld Z h0 a "java/lang/String" "value" "[B" u) (F2 : Fld Z h0 a "java/lang/String" "coder" "B" u2) (g : n0 ≤ a) (Vs : Arv Z h0 s' ks .char 1 [(.int c0)] (.int 0)) (hc0 : ¬ c0 < 0 ∧ ¬ (65535 : Int32) < c0) :
    own_MF l Z MN6 jdk_42_method_149_code 6 none ws (own_R 4 2 3 57) #[(.ref a), (.ref s'), (.int (0 : Int32)), (.int (1 : Int32)), .null] h0 (Q_u_i4_1 Z a s' c0 ks gC u u2 h0 n0) := by
  have wd := @own_wd _ _ hw
  refine MetFree.of_bodySF (plainFor_of_name pn_java_lang_String) hisR ?_
  intro p e s m args below meth c s₁ Bd hml0 hP hK
  obtain ⟨rfl, hZ, hh⟩ := hP
  have hx := Bd.exec
  have hby := Bd.bytes
  have hml : c.maxLocals = 6 := hml0
  have hown : s.vm.findClass "java/lang/String" = some m.cls := findClass_of_methodNamed Bd.named
  have hnm := (name_of_methodNamed Bd.named Bd.method).1
  have X0 : Stand p l e (own_R 4 2 3 57) s m #[(.ref a), (.ref s'), (.int (0 : Int32)), (.int (1 : Int32)), .null] below meth c s₁ [] 0 0 := Stand.of_body Bd
  have e0 : s₁.heap = h0 := by rw [← hh, Bd.state]; rfl
  have N0 := Fr.nil n0
  have lta := own_nlt (E.lt)
  have lts := own_nlt (Vs.lt)
  refine go_of (A := s₁.setTop (entryFrame m #[(.ref a), (.ref s'), (.int (0 : Int32)), (.int (1 : Int32)), .null] 6)) (B := s₁.setTop (mkF m 0 #[.val (.ref a), .val (.ref s'), .val (.int (0 : Int32)), .val (.int (1 : Int32)), .val .null, .unset] [])) (fun _ kk' => castTop (ef_u_i4_1 m a s') kk') ?_
  refine go_of (B := (s₁.setTop (mkF m 1 #[.val (.ref a), .val (.ref s'), .val (.int (0 : Int32)), .val (.int (1 : Int32)), .val .null, .unset] [(.ref a)]))) (fun _ kk => XS.aloadN X0.here hx rfl (hb hby d3_0) rfl rfl kk) ?_
  obtain ⟨T1, X1, e1, st1⟩ := initO X0 hx hZ hown (wd 17 rfl) (wd 18 rfl) (wd 19 rfl) e0 (g := (mkF m 1 #[.val (.ref a), .val (.ref s'), .val (.int (0 : Int32)), .val (.int (1 : Int32)), .val .null, .unset] [(.ref a)])) rfl (by rw [hml]; rfl) rfl (hb hby d3_1) (by decide) (W := 0) (Nat.le_of_eq rfl) (by decide)
  refine go_of (B := (T1.setTop (mkF m 4 #[.val (.ref a), .val (.ref s'), .val (.int (0 : Int32)), .val (.int (1 : Int32)), .val .null, .unset] []))) (st1) ?_
  refine go_of (B := (T1.setTop (mkF m 27 #[.val (.ref a), .val (.ref s'), .val (.int (0 : Int32)), .val (.int (1 : Int32)), .val .null, .unset] []))) (fun _ kk => XS.iloadN X1.here hx rfl (hb hby d3_4) rfl (XS.ifYes X1.here hx rfl (pc0 := 5) (pc' := 27) rfl (hb hby d3_5) rfl ((if0 _ _).trans (feq (by decide : ¬ ((1 : Int32) = (0 : Int32)))).2) (by decide) (by decide) kk)) ?_
  obtain ⟨T2, X2, e2, st2⟩ := getS2 X1 hx hZ hown (host := "") (Or.inl (wd 47 rfl)) Via.refl e1 (SC.ext O.2) (g := (mkF m 27 #[.val (.ref a), .val (.ref s'), .val (.int (0 : Int32)), .val (.int (1 : Int32)), .val .null, .unset] [])) rfl (hb hby d3_27)
  refine go_of (B := (T2.setTop (mkF m 30 #[.val (.ref a), .val (.ref s'), .val (.int (0 : Int32)), .val (.int (1 : Int32)), .val .null, .unset] [(.int gC)]))) (st2) ?_
  refine go_of (B := (T2.setTop (mkF m 36 #[.val (.ref a), .val (.ref s'), .val (.int (0 : Int32)), .val (.int (1 : Int32)), .val .null, .unset] [(.int (1 : Int32)), (.int (0 : Int32)), (.ref s')]))) (fun _ kk => XS.ifNo X2.here hx rfl (hb hby d3_30) rfl ((if0 _ _).trans (feq hgC).1) (XS.aloadN X2.here hx rfl (hb hby d3_33) rfl rfl (XS.iloadN X2.here hx rfl (hb hby d3_34) rfl (XS.iloadN X2.here hx rfl (hb hby d3_35) rfl kk)))) ?_
  obtain ⟨_, _, ⟨T3, L3, k3, n3⟩, -, X3, ⟨Lc3, hQ3, l3, y3, z3⟩, st3⟩ := Jvm.LawKit.callS X2 hx (y := MN17) hown (mvT hZ (wd 75 rfl)) (mvT hZ (wd 76 rfl)) (mvT hZ (wd 77 rfl)) (mvT hZ (wd 78 rfl)) (by decide) (backOf (W := 0) (u_c3_1 l Z a0 hw [] s' c0 ks h0 n0 (by omega) O SU Vs hc0) hZ (wd 78 rfl) (wd 77 rfl) (by decide) (by decide)) (g := (mkF m 36 #[.val (.ref a), .val (.ref s'), .val (.int (0 : Int32)), .val (.int (1 : Int32)), .val .null, .unset] [(.int (1 : Int32)), (.int (0 : Int32)), (.ref s')])) rfl (by rw [hml]; rfl) (argsL := [(.ref s'), (.int (0 : Int32)), (.int (1 : Int32))]) (rest := []) (lenOf pd___CII__B rfl) rfl (Nat.le_of_eq rfl) (hb hby d3_36) (fun _ _ => ⟨rfl, e2, (by decide : 0 + 2 ≤ _), (by decide : 0 + 3 ≤ _)⟩)
  dsimp only [Pt.U, Pt.locs, Pt.cells, Pt.slots] at X3 l3 y3 z3 st3 hQ3
  subst l3 y3 z3
  obtain ⟨b3, k3, rfl, N3q, lo3, K3, H3⟩ := hQ3
  have lo3 := own_nle lo3
  have N3 := Fr.app N0 N3q
  have sz3 := K3.1
  refine go_of (B := (T3.setTop (mkF m 39 #[.val (.ref a), .val (.ref s'), .val (.int (0 : Int32)), .val (.int (1 : Int32)), .val .null, .unset] [(.ref b3)]))) (st3) ?_
  rcases H3 with ⟨hl0, V3⟩ | V3
  · have hi3 := own_nlt (V3.lt)
    refine go_of (B := (T3.setTop (mkF m 45 #[.val (.ref a), .val (.ref s'), .val (.int (0 : Int32)), .val (.int (1 : Int32)), .val .null, .val (.ref b3)] [(.int (1 : Int32)), (.ref b3), (.ref a)]))) (fun _ kk => XS.astore X3.here hx rfl (hb hby d3_39) rfl rfl rfl (XS.aloadN X3.here hx rfl (hb hby d3_41) rfl rfl (XS.aload X3.here hx rfl (hb hby d3_42) rfl rfl (XS.iloadN X3.here hx rfl (hb hby d3_44) rfl kk)))) ?_
    obtain ⟨_, _, ⟨T4, L4, k4, n4⟩, -, X4, ⟨Lc4, hQ4, l4, y4, z4⟩, st4⟩ := Jvm.LawKit.callS X3 hx (y := MN16) hown (mvT hZ (wd 82 rfl)) (mvT hZ (wd 83 rfl)) (mvT hZ (wd 77 rfl)) (mvT hZ (wd 84 rfl)) (by decide) (backOf (W := 1) (str_cf_1 l Z a0 hw [] b3 k3 _ T3.heap n0 (by omega) V3) hZ (wd 84 rfl) (wd 77 rfl) (by decide) (by decide)) (g := (mkF m 45 #[.val (.ref a), .val (.ref s'), .val (.int (0 : Int32)), .val (.int (1 : Int32)), .val .null, .val (.ref b3)] [(.int (1 : Int32)), (.ref b3), (.ref a)])) rfl (by rw [hml]; rfl) (argsL := [(.ref b3), (.int (1 : Int32))]) (rest := [(.ref a)]) (lenOf pd___BI_B rfl) rfl (Nat.le_of_eq rfl) (hb hby d3_45) (fun _ _ => ⟨rfl, rfl, (by decide : 2 + 0 ≤ _), (by decide : 3 + 0 ≤ _)⟩)
    dsimp only [Pt.U, Pt.locs, Pt.cells, Pt.slots] at X4 l4 y4 z4 st4 hQ4
    subst l4 y4 z4
    obtain ⟨rfl, N4q, e4⟩ := hQ4
    have N4 := Fr.app N3 N4q
    refine go_of (B := (T4.setTop (mkF m 48 #[.val (.ref a), .val (.ref s'), .val (.int (0 : Int32)), .val (.int (1 : Int32)), .val .null, .val (.ref b3)] [(.int (0 : Int32)), (.ref a)]))) (st4) ?_
    have cf_5 := (E.keep K3)
    have cf_6 := (F2.keep K3 nin0)
    obtain ⟨T7, h7, X7, e7, W7, st7⟩ := putFN X4 hx hZ hown (wd 27 rfl) Via.refl e4 cf_6 cf_5 (Or.inr ⟨(wd 23 rfl), rfl, hnm⟩) (wd 8 rfl) (ty := .byte) (v' := (.int (nar .byte (0 : Int32)))) (by decide) rfl (fits_nar_byte _) (g := (mkF m 48 #[.val (.ref a), .val (.ref s'), .val (.int (0 : Int32)), .val (.int (1 : Int32)), .val .null, .val (.ref b3)] [(.int (0 : Int32)), (.ref a)])) rfl rfl (hb hby d3_48)
    have sz7 := W7.size
    have Fw7 := cf_6.same W7
    have N7 := Fr.snoc X7 N4 (g : n0 ≤ a)
    refine go_of (B := (T7.setTop (mkF m 51 #[.val (.ref a), .val (.ref s'), .val (.int (0 : Int32)), .val (.int (1 : Int32)), .val .null, .val (.ref b3)] []))) (st7) ?_
    refine go_of (B := (T7.setTop (mkF m 54 #[.val (.ref a), .val (.ref s'), .val (.int (0 : Int32)), .val (.int (1 : Int32)), .val .null, .val (.ref b3)] [(.ref b3), (.ref a)]))) (fun _ kk => XS.aloadN X7.here hx rfl (hb hby d3_51) rfl rfl (XS.aload X7.here hx rfl (hb hby d3_52) rfl rfl kk)) ?_
    have cf_8 := (cf_5.wr W7)
    have cf_9 := ((F.keep K3 nin0).other W7 (Or.inr (slot_ne (Or.inr (wd 22 rfl)) (Or.inr (wd 23 rfl)) (by decide) (t := (.array .byte)) (t' := .byte) (by decide) (by decide))))
    obtain ⟨T10, h10, X10, e10, W10, st10⟩ := putF X7 hx hZ hown (host := "") (Or.inl (wd 26 rfl)) Via.refl e7 cf_9 cf_8 (Or.inr ⟨(wd 22 rfl), rfl, hnm⟩) (wd 8 rfl) (ty := (.array .byte)) (by decide) rfl rfl (g := (mkF m 54 #[.val (.ref a), .val (.ref s'), .val (.int (0 : Int32)), .val (.int (1 : Int32)), .val .null, .val (.ref b3)] [(.ref b3), (.ref a)])) rfl rfl (hb hby d3_54)
    have sz10 := W10.size
    have Fw10 := cf_9.same W10
    have N10 := Fr.snoc X10 N7 (g : n0 ≤ a)
    refine go_of (B := (T10.setTop (mkF m 57 #[.val (.ref a), .val (.ref s'), .val (.int (0 : Int32)), .val (.int (1 : Int32)), .val .null, .val (.ref b3)] []))) (st10) ?_
    have cf_11 := ((V3.other W7 (by first | omega | exact own_ne (by omega) | exact own_le (by omega))).other W10 (by first | omega | exact own_ne (by omega) | exact own_le (by omega)))
    have cf_12 := (Fw7.other W10 (Or.inr (slot_ne (Or.inr (wd 23 rfl)) (Or.inr (wd 22 rfl)) (by decide) (t := .byte) (t' := (.array .byte)) (by decide) (by decide))))
    have cf_13 := (cf_8.wr W10)
    refine go_end X10 (v := none) (fun _ => rfl) Bd.notSynchronized (by decide) (by decide) (Q := (Q_u_i4_1 Z a s' c0 ks gC u u2 h0 n0)) ?_ (fun fs hr => X10.returnOut hx Bd.returns (hb hby d3_57) hr)
    unfold Q_u_i4_1
    try rw [e10]
    exact ⟨rfl, N10, ((((Keep.refl h0 [a]).trans K3 all0).wr W7 (Or.inl (List.mem_of_getElem? (i := 0) rfl))).wr W10 (Or.inl (List.mem_of_getElem? (i := 0) rfl))), Or.inl ⟨b3, k3, cf_13, cf_12, Fw10, cf_11, (own_allc ⟨hc0.1, hl0⟩ (fun _ q => nomatch q))⟩⟩
  · have hi3 := own_nlt (V3.lt)
    refine go_of (B := (T3.setTop (mkF m 45 #[.val (.ref a), .val (.ref s'), .val (.int (0 : Int32)), .val (.int (1 : Int32)), .val .null, .val (.ref b3)] [(.int (1 : Int32)), (.ref b3), (.ref a)]))) (fun _ kk => XS.astore X3.here hx rfl (hb hby d3_39) rfl rfl rfl (XS.aloadN X3.here hx rfl (hb hby d3_41) rfl rfl (XS.aload X3.here hx rfl (hb hby d3_42) rfl rfl (XS.iloadN X3.here hx rfl (hb hby d3_44) rfl kk)))) ?_
    obtain ⟨_, _, ⟨T14, L14, k14, n14⟩, -, X14, ⟨Lc14, hQ14, l14, y14, z14⟩, st14⟩ := Jvm.LawKit.callS X3 hx (y := MN16) hown (mvT hZ (wd 82 rfl)) (mvT hZ (wd 83 rfl)) (mvT hZ (wd 77 rfl)) (mvT hZ (wd 84 rfl)) (by decide) (backOf (W := 1) (u_cf_1 l Z a0 hw [] b3 k3 _ T3.heap n0 (by omega) V3) hZ (wd 84 rfl) (wd 77 rfl) (by decide) (by decide)) (g := (mkF m 45 #[.val (.ref a), .val (.ref s'), .val (.int (0 : Int32)), .val (.int (1 : Int32)), .val .null, .val (.ref b3)] [(.int (1 : Int32)), (.ref b3), (.ref a)])) rfl (by rw [hml]; rfl) (argsL := [(.ref b3), (.int (1 : Int32))]) (rest := [(.ref a)]) (lenOf pd___BI_B rfl) rfl (Nat.le_of_eq rfl) (hb hby d3_45) (fun _ _ => ⟨rfl, rfl, (by decide : 2 + 0 ≤ _), (by decide : 3 + 0 ≤ _)⟩)
    dsimp only [Pt.U, Pt.locs, Pt.cells, Pt.slots] at X14 l14 y14 z14 st14 hQ14
    subst l14 y14 z14
    obtain ⟨rfl, N14q, e14⟩ := hQ14
    have N14 := Fr.app N3 N14q
    refine go_of (B := (T14.setTop (mkF m 48 #[.val (.ref a), .val (.ref s'), .val (.int (0 : Int32)), .val (.int (1 : Int32)), .val .null, .val (.ref b3)] [(.int (1 : Int32)), (.ref a)]))) (st14) ?_
    have cf_15 := (E.keep K3)
    have cf_16 := (F2.keep K3 nin0)
    obtain ⟨T17, h17, X17, e17, W17, st17⟩ := putFN X14 hx hZ hown (wd 27 rfl) Via.refl e14 cf_16 cf_15 (Or.inr ⟨(wd 23 rfl), rfl, hnm⟩) (wd 8 rfl) (ty := .byte) (v' := (.int (nar .byte (1 : Int32)))) (by decide) rfl (fits_nar_byte _) (g := (mkF m 48 #[.val (.ref a), .val (.ref s'), .val (.int (0 : Int32)), .val (.int (1 : Int32)), .val .null, .val (.ref b3)] [(.int (1 : Int32)), (.ref a)])) rfl rfl (hb hby d3_48)
    have sz17 := W17.size
    have Fw17 := cf_16.same W17
    have N17 := Fr.snoc X17 N14 (g : n0 ≤ a)
    refine go_of (B := (T17.setTop (mkF m 51 #[.val (.ref a), .val (.ref s'), .val (.int (0 : Int32)), .val (.int (1 : Int32)), .val .null, .val (.ref b3)] []))) (st17) ?_
    refine go_of (B := (T17.setTop (mkF m 54 #[.val (.ref a), .val (.ref s'), .val (.int (0 : Int32)), .val (.int (1 : Int32)), .val .null, .val (.ref b3)] [(.ref b3), (.ref a)]))) (fun _ kk => XS.aloadN X17.here hx rfl (hb hby d3_51) rfl rfl (XS.aload X17.here hx rfl (hb hby d3_52) rfl rfl kk)) ?_
    have cf_18 := (cf_15.wr W17)
    have cf_19 := ((F.keep K3 nin0).other W17 (Or.inr (slot_ne (Or.inr (wd 22 rfl)) (Or.inr (wd 23 rfl)) (by decide) (t := (.array .byte)) (t' := .byte) (by decide) (by decide))))
    obtain ⟨T20, h20, X20, e20, W20, st20⟩ := putF X17 hx hZ hown (host := "") (Or.inl (wd 26 rfl)) Via.refl e17 cf_19 cf_18 (Or.inr ⟨(wd 22 rfl), rfl, hnm⟩) (wd 8 rfl) (ty := (.array .byte)) (by decide) rfl rfl (g := (mkF m 54 #[.val (.ref a), .val (.ref s'), .val (.int (0 : Int32)), .val (.int (1 : Int32)), .val .null, .val (.ref b3)] [(.ref b3), (.ref a)])) rfl rfl (hb hby d3_54)
    have sz20 := W20.size
    have Fw20 := cf_19.same W20
    have N20 := Fr.snoc X20 N17 (g : n0 ≤ a)
    refine go_of (B := (T20.setTop (mkF m 57 #[.val (.ref a), .val (.ref s'), .val (.int (0 : Int32)), .val (.int (1 : Int32)), .val .null, .val (.ref b3)] []))) (st20) ?_
    have cf_21 := ((V3.other W17 (by first | omega | exact own_ne (by omega) | exact own_le (by omega))).other W20 (by first | omega | exact own_ne (by omega) | exact own_le (by omega)))
    have cf_22 := (Fw17.other W20 (Or.inr (slot_ne (Or.inr (wd 23 rfl)) (Or.inr (wd 22 rfl)) (by decide) (t := .byte) (t' := (.array .byte)) (by decide) (by decide))))
    have cf_23 := (cf_18.wr W20)
    refine go_end X20 (v := none) (fun _ => rfl) Bd.notSynchronized (by decide) (by decide) (Q := (Q_u_i4_1 Z a s' c0 ks gC u u2 h0 n0)) ?_ (fun fs hr => X20.returnOut hx Bd.returns (hb hby d3_57) hr)
    unfold Q_u_i4_1
    try rw [e20]
    exact ⟨rfl, N20, ((((Keep.refl h0 [a]).trans K3 all0).wr W17 (Or.inl (List.mem_of_getElem? (i := 0) rfl))).wr W20 (Or.inl (List.mem_of_getElem? (i := 0) rfl))), Or.inr ⟨b3, k3, cf_23, cf_22, Fw20, cf_21, (own_allc hc0 (fun _ q => nomatch q))⟩⟩
def Q_u_i1_1 (Z : State) (a : Addr) (s' : Addr) (c0 : Int32) (ks : ClassId) (gC : Int32) (u : Value) (u2 : Value) (h0 : Heap) (n0 : Nat) (v : Option Value) (h : Heap) (L : List Loc) : Prop := v = none ∧ Fr n0 L ∧ Keep h0 h [a] ∧ StrU Z h a 1 2 [c0]
theorem ef_u_i1_1 (m : MethodId) (a : Addr) (s' : Addr)  : entryFrame m #[(.ref a), (.ref s')] 2 = mkF m 0 #[.val (.ref a), .val (.ref s')] [] := by first | (simp [entryFrame, mkF, argsToLocals, Value.category]; done) | rfl
theorem u_i1_1 (l : Launch) (Z : State) (a0 : Array Value) (hw : TW a0 Z) (ws : List Cond) (a : Addr) (s' : Addr) (c0 : Int32) (ks : ClassId) (gC : Int32) (u : Value) (u2 : Value) (h0 : Heap) (n0 : Nat) (Z0 : n0 ≤ h0.size) (O : Old Z n0 h0) (SC : Sta Z Z.heap "java/lang/String" "COMPACT_STRINGS" "Z" (.int gC)) (hgC : ¬ gC = (0 : Int32)) (SU : US Z) (E : Exa Z h0 a "java/lang/String") (F : Fld Z h0 a "java/lang/String" "value" "[B" u) (F2 : Fld Z h0 a "java/lang/String" "coder" "B" u2) (g : n0 ≤ a) (Vs : Arv Z h0 s' ks .char 1 [(.int c0)] (.int 0)) (hc0 : ¬ c0 < 0 ∧ ¬ (65535 : Int32) < c0) :
    own_MF l Z MN5 jdk_42_method_3_code 2 none ws (own_R 5 2 3 74) #[(.ref a), (.ref s')] h0 (Q_u_i1_1 Z a s' c0 ks gC u u2 h0 n0) := by
  have wd := @own_wd _ _ hw
  refine MetFree.of_bodySF (plainFor_of_name pn_java_lang_String) hisR ?_
  intro p e s m args below meth c s₁ Bd hml0 hP hK
  obtain ⟨rfl, hZ, hh⟩ := hP
  have hx := Bd.exec
  have hby := Bd.bytes
  have hml : c.maxLocals = 2 := hml0
  have hown : s.vm.findClass "java/lang/String" = some m.cls := findClass_of_methodNamed Bd.named
  have hnm := (name_of_methodNamed Bd.named Bd.method).1
  have X0 : Stand p l e (own_R 5 2 3 74) s m #[(.ref a), (.ref s')] below meth c s₁ [] 0 0 := Stand.of_body Bd
  have e0 : s₁.heap = h0 := by rw [← hh, Bd.state]; rfl
  have N0 := Fr.nil n0
  have lta := own_nlt (E.lt)
  have lts := own_nlt (Vs.lt)
  refine go_of (A := s₁.setTop (entryFrame m #[(.ref a), (.ref s')] 2)) (B := s₁.setTop (mkF m 0 #[.val (.ref a), .val (.ref s')] [])) (fun _ kk' => castTop (ef_u_i1_1 m a s') kk') ?_
  refine go_of (B := (s₁.setTop (mkF m 4 #[.val (.ref a), .val (.ref s')] [(.ref s'), (.int (0 : Int32)), (.ref s'), (.ref a)]))) (fun _ kk => XS.aloadN X0.here hx rfl (hb hby d2_0) rfl rfl (XS.aloadN X0.here hx rfl (hb hby d2_1) rfl rfl (XS.iconst X0.here hx rfl (hb hby d2_2) (XS.aloadN X0.here hx rfl (hb hby d2_3) rfl rfl kk)))) ?_
  obtain ⟨cl1, Ar1, q1, Sz1, Nn1, Hh1, G1⟩ := id (Vs)
  have ln1 := len_of Sz1 Nn1
  refine go_of (B := (s₁.setTop (mkF m 5 #[.val (.ref a), .val (.ref s')] [(.int (1 : Int32)), (.int (0 : Int32)), (.ref s'), (.ref a)]))) (fun _ kk => X0.arraylength hx (by rw [e0]; exact Ar1.1) (State.isArrayOf_alike hZ.alike Ar1.2.1) (g := (mkF m 4 #[.val (.ref a), .val (.ref s')] [(.ref s'), (.int (0 : Int32)), (.ref s'), (.ref a)])) rfl rfl (hb hby d2_4) _ (by rw [ln1]; exact kk)) ?_
  refine go_of (B := (s₁.setTop (mkF m 6 #[.val (.ref a), .val (.ref s')] [.null, (.int (1 : Int32)), (.int (0 : Int32)), (.ref s'), (.ref a)]))) (fun _ kk => XS.aconstNull X0.here hx rfl (hb hby d2_5) kk) ?_
  obtain ⟨_, _, ⟨T2, L2, k2, n2⟩, -, X2, ⟨Lc2, hQ2, l2, y2, z2⟩, st2⟩ := X0.specialBack hx (y := MN6) rfl hown (mvT hZ (wd 13 rfl)) (mvT hZ (wd 14 rfl)) (mvT hZ (wd 16 rfl)) (by decide) (backOf (W := 0) (u_i4_1 l Z a0 hw [] a s' c0 ks gC u u2 h0 n0 (by omega) O SC hgC SU E F F2 g Vs hc0) hZ (wd 16 rfl) (wd 9 rfl) (by decide) (by decide)) (g := (mkF m 6 #[.val (.ref a), .val (.ref s')] [.null, (.int (1 : Int32)), (.int (0 : Int32)), (.ref s'), (.ref a)])) rfl (by rw [hml]; rfl) (Steps.refl _) (a := a) (argsL := [(.ref s'), (.int (0 : Int32)), (.int (1 : Int32)), .null]) (rest := []) (lenOf pd___CIILjava_lang_Void__V rfl) rfl (Nat.le_of_eq rfl) (hb hby d2_6) (fun _ _ => ⟨rfl, e0, (by decide : 0 + 2 ≤ _), (by decide : 0 + 3 ≤ _)⟩)
  dsimp only [Pt.U, Pt.locs, Pt.cells, Pt.slots] at X2 l2 y2 z2 st2 hQ2
  subst l2 y2 z2
  obtain ⟨rfl, N2q, K2, S2⟩ := hQ2
  have N2 := Fr.app N0 N2q
  have sz2 := K2.1
  refine go_tr (B := (T2.setTop (mkF m 9 #[.val (.ref a), .val (.ref s')] []))) (st2) ?_
  refine go_end X2 (v := none) (fun _ => rfl) Bd.notSynchronized (by decide) (by decide) (Q := (Q_u_i1_1 Z a s' c0 ks gC u u2 h0 n0)) ?_ (fun fs hr => X2.returnOut hx Bd.returns (hb hby d2_9) hr)
  unfold Q_u_i1_1
  exact ⟨rfl, N2, ((Keep.refl h0 [a]).trans K2 (allS (Or.inl (List.mem_of_getElem? (i := 0) rfl)) all0)), S2⟩
def Q_u_c5_2 (Z : State) (s' : Addr) (d : Addr) (c0 : Int32) (c1 : Int32) (ks : ClassId) (kd : ClassId) (h0 : Heap) (n0 : Nat) (v : Option Value) (h : Heap) (L : List Loc) : Prop := ∃ r : Int32, v = some (.int r) ∧ Fr n0 L ∧ Keep h0 h [d] ∧ ((r = 2 ∧ ¬ (255 : Int32) < c0 ∧ ¬ (255 : Int32) < c1 ∧ Arv Z h d kd .byte 2 [(.int (own_b8 c0)), (.int (own_b8 c1))] (.int 0)) ∨ (r = 0 ∧ (255 : Int32) < c0) ∨ (r = 1 ∧ (255 : Int32) < c1))
theorem ef_u_c5_2 (m : MethodId) (s' : Addr) (d : Addr)  : entryFrame m #[(.ref s'), (.int (0 : Int32)), (.ref d), (.int (0 : Int32)), (.int (2 : Int32))] 7 = mkF m 0 #[.val (.ref s'), .val (.int (0 : Int32)), .val (.ref d), .val (.int (0 : Int32)), .val (.int (2 : Int32)), .unset, .unset] [] := by first | (simp [entryFrame, mkF, argsToLocals, Value.category]; done) | rfl
theorem u_c5_2 (l : Launch) (Z : State) (a0 : Array Value) (hw : TW a0 Z) (ws : List Cond) (s' : Addr) (d : Addr) (c0 : Int32) (c1 : Int32) (ks : ClassId) (kd : ClassId) (h0 : Heap) (n0 : Nat) (Z0 : n0 ≤ h0.size) (Vs : Arv Z h0 s' ks .char 2 [(.int c0), (.int c1)] (.int 0)) (Vd : Arv Z h0 d kd .byte 2 [(.int 0), (.int 0)] (.int 0)) (nsd : s' ≠ d) (g : n0 ≤ d) :
    own_MF l Z MN18 jdk_52_method_21_code 7 (some .int) ws (own_R 0 0 0 0) #[(.ref s'), (.int (0 : Int32)), (.ref d), (.int (0 : Int32)), (.int (2 : Int32))] h0 (Q_u_c5_2 Z s' d c0 c1 ks kd h0 n0) := by
  have wd := @own_wd _ _ hw
  refine MetFree.of_bodySF (plainFor_of_name pn_java_lang_StringUTF16) hisR ?_
  intro p e s m args below meth c s₁ Bd hml0 hP hK
  obtain ⟨rfl, hZ, hh⟩ := hP
  have hx := Bd.exec
  have hby := Bd.bytes
  have hml : c.maxLocals = 7 := hml0
  have hown : s.vm.findClass "java/lang/StringUTF16" = some m.cls := findClass_of_methodNamed Bd.named
  have hnm := (name_of_methodNamed Bd.named Bd.method).1
  have X0 : Stand p l e (own_R 0 0 0 0) s m #[(.ref s'), (.int (0 : Int32)), (.ref d), (.int (0 : Int32)), (.int (2 : Int32))] below meth c s₁ [] 0 0 := Stand.of_body Bd
  have e0 : s₁.heap = h0 := by rw [← hh, Bd.state]; rfl
  have N0 := Fr.nil n0
  have lts := own_nlt (Vs.lt)
  have ltd := own_nlt (Vd.lt)
  refine go_of (A := s₁.setTop (entryFrame m #[(.ref s'), (.int (0 : Int32)), (.ref d), (.int (0 : Int32)), (.int (2 : Int32))] 7)) (B := s₁.setTop (mkF m 0 #[.val (.ref s'), .val (.int (0 : Int32)), .val (.ref d), .val (.int (0 : Int32)), .val (.int (2 : Int32)), .unset, .unset] [])) (fun _ kk' => castTop (ef_u_c5_2 m s' d) kk') ?_
  refine go_of (B := (s₁.setTop (mkF m 11 #[.val (.ref s'), .val (.int (0 : Int32)), .val (.ref d), .val (.int (0 : Int32)), .val (.int (2 : Int32)), .val (.int (0 : Int32)), .unset] [(.ref s')]))) (fun _ kk => XS.iconst X0.here hx rfl (hb hby d17_0) (XS.istore X0.here hx rfl (hb hby d17_1) rfl rfl (XS.iload X0.here hx rfl (hb hby d17_3) rfl (XS.iload X0.here hx rfl (hb hby d17_5) rfl (XS.icmpNo X0.here hx rfl (hb hby d17_7) rfl (tlt (by decide : (0 : Int32) < (2 : Int32))).2.1 (XS.aloadN X0.here hx rfl (hb hby d17_10) rfl rfl kk)))))) ?_
  refine go_of (B := (s₁.setTop (mkF m 12 #[.val (.ref s'), .val (.int (0 : Int32)), .val (.ref d), .val (.int (0 : Int32)), .val (.int (2 : Int32)), .val (.int (0 : Int32)), .unset] [(.int (0 : Int32)), (.ref s')]))) (fun _ kk => XS.iloadN X0.here hx rfl (hb hby d17_11) rfl kk) ?_
  obtain ⟨cl1, Ar1, q1, Sz1, Nn1, Hh1, G1⟩ := id (Vs)
  refine go_of (B := (s₁.setTop (mkF m 20 #[.val (.ref s'), .val (.int (0 : Int32)), .val (.ref d), .val (.int (0 : Int32)), .val (.int (2 : Int32)), .val (.int (0 : Int32)), .val (.int c0)] [(.int (255 : Int32)), (.int c0)]))) (fun _ kk => X0.caload hx (j := (0 : Int32)) (v := (.int c0)) (by rw [e0]; exact Ar1.1) (State.isArrayOf_alike hZ.alike Ar1.2.1) Ar1.2.2 (inb_of Sz1 ⟨by decide, by decide⟩) (Hh1.at (inb_of Sz1 ⟨by decide, by decide⟩) rfl) (g := (mkF m 12 #[.val (.ref s'), .val (.int (0 : Int32)), .val (.ref d), .val (.int (0 : Int32)), .val (.int (2 : Int32)), .val (.int (0 : Int32)), .unset] [(.int (0 : Int32)), (.ref s')])) rfl rfl (hb hby d17_12) _ (XS.istore X0.here hx rfl (hb hby d17_13) rfl rfl (XS.iload X0.here hx rfl (hb hby d17_15) rfl (XS.sipush X0.here hx rfl (hb hby d17_17) kk)))) ?_
  by_cases hcc2 : (255 : Int32) < c0
  · refine go_of (B := (s₁.setTop (mkF m 25 #[.val (.ref s'), .val (.int (0 : Int32)), .val (.ref d), .val (.int (0 : Int32)), .val (.int (2 : Int32)), .val (.int (0 : Int32)), .val (.int c0)] [(.int (0 : Int32))]))) (fun _ kk => XS.icmpNo X0.here hx rfl (hb hby d17_20) rfl (tlt hcc2).2.2.2 (XS.iload X0.here hx rfl (hb hby d17_23) rfl kk)) ?_
    refine go_end X0 (v := some (.int (0 : Int32))) (fun h => by rw [Bd.returns] at h; cases h) Bd.notSynchronized (by decide) (by decide) (Q := (Q_u_c5_2 Z s' d c0 c1 ks kd h0 n0)) ?_ (fun fs hr => own_retI X0 hx Bd.returns (hb hby d17_25) hr)
    unfold Q_u_c5_2
    try rw [e0]
    exact ⟨_, rfl, N0, (Keep.refl h0 [d]), Or.inr (Or.inl ⟨rfl, hcc2⟩)⟩
  · refine go_of (B := (s₁.setTop (mkF m 31 #[.val (.ref s'), .val (.int (0 : Int32)), .val (.ref d), .val (.int (0 : Int32)), .val (.int (2 : Int32)), .val (.int (0 : Int32)), .val (.int c0)] [(.int (c0.toInt8.toInt32)), (.int (0 : Int32)), (.ref d)]))) (fun _ kk => XS.icmpYes X0.here hx rfl (pc0 := 20) (pc' := 26) rfl (hb hby d17_20) rfl (flt hcc2).2.2.2 (by decide) (by decide) (XS.aloadN X0.here hx rfl (hb hby d17_26) rfl rfl (XS.iloadN X0.here hx rfl (hb hby d17_27) rfl (XS.iload X0.here hx rfl (hb hby d17_28) rfl (XS.i2b X0.here hx rfl (hb hby d17_30) rfl kk))))) ?_
    obtain ⟨cl3, Ar3, q3, Sz3, Nn3, Hh3, G3⟩ := id (Vd)
    obtain ⟨T4, h4, X4, e4, W4, st4⟩ := stB X0 hx hZ e0 Ar3 (j := (0 : Int32)) (inb_of Sz3 ⟨by decide, by decide⟩) (g := (mkF m 31 #[.val (.ref s'), .val (.int (0 : Int32)), .val (.ref d), .val (.int (0 : Int32)), .val (.int (2 : Int32)), .val (.int (0 : Int32)), .val (.int c0)] [(.int (c0.toInt8.toInt32)), (.int (0 : Int32)), (.ref d)])) rfl rfl (hb hby d17_31)
    have sz4 := W4.size
    have N4 := Fr.snoc X4 N0 (g : n0 ≤ d)
    have V4 : Arv Z h4 d kd .byte (2 : Int32) [(.int ((c0.toInt8.toInt32).toInt8.toInt32)), (.int (0 : Int32))] (.int (0 : Int32)) := Arv.set Ar3 q3 Sz3 Nn3 Hh3 G3 (fits_nar_byte _) W4 0 rfl (Nat.le_of_ble_eq_true rfl)
    rw [own_bb] at V4
    refine go_of (B := (T4.setTop (mkF m 32 #[.val (.ref s'), .val (.int (0 : Int32)), .val (.ref d), .val (.int (0 : Int32)), .val (.int (2 : Int32)), .val (.int (0 : Int32)), .val (.int c0)] []))) (st4) ?_
    refine go_of (B := (T4.setTop (mkF m 7 #[.val (.ref s'), .val (.int (1 : Int32)), .val (.ref d), .val (.int (1 : Int32)), .val (.int (2 : Int32)), .val (.int (1 : Int32)), .val (.int c0)] [(.int (2 : Int32)), (.int (1 : Int32))]))) (fun _ kk => XS.iinc X4.here hx rfl (hb hby d17_32) rfl rfl (XS.iinc X4.here hx rfl (hb hby d17_35) rfl rfl (XS.iinc X4.here hx rfl (hb hby d17_38) rfl rfl (XS.goto X4.here hx rfl (pc0 := 41) (pc' := 3) rfl (hb hby d17_41) (by decide) (by decide) (XS.iload X4.here hx rfl (hb hby d17_3) rfl (XS.iload X4.here hx rfl (hb hby d17_5) rfl kk)))))) ?_
    refine go_of (B := (T4.setTop (mkF m 12 #[.val (.ref s'), .val (.int (1 : Int32)), .val (.ref d), .val (.int (1 : Int32)), .val (.int (2 : Int32)), .val (.int (1 : Int32)), .val (.int c0)] [(.int (1 : Int32)), (.ref s')]))) (fun _ kk => XS.icmpNo X4.here hx rfl (hb hby d17_7) rfl (tlt (by decide : (1 : Int32) < (2 : Int32))).2.1 (XS.aloadN X4.here hx rfl (hb hby d17_10) rfl rfl (XS.iloadN X4.here hx rfl (hb hby d17_11) rfl kk))) ?_
    have cf_5 := (Vs.other W4 (by first | omega | exact own_ne (by omega) | exact own_le (by omega)))
    obtain ⟨cl6, Ar6, q6, Sz6, Nn6, Hh6, G6⟩ := id (cf_5)
    refine go_of (B := (T4.setTop (mkF m 20 #[.val (.ref s'), .val (.int (1 : Int32)), .val (.ref d), .val (.int (1 : Int32)), .val (.int (2 : Int32)), .val (.int (1 : Int32)), .val (.int c1)] [(.int (255 : Int32)), (.int c1)]))) (fun _ kk => X4.caload hx (j := (1 : Int32)) (v := (.int c1)) (by rw [e4]; exact Ar6.1) (State.isArrayOf_alike hZ.alike Ar6.2.1) Ar6.2.2 (inb_of Sz6 ⟨by decide, by decide⟩) (Hh6.at (inb_of Sz6 ⟨by decide, by decide⟩) rfl) (g := (mkF m 12 #[.val (.ref s'), .val (.int (1 : Int32)), .val (.ref d), .val (.int (1 : Int32)), .val (.int (2 : Int32)), .val (.int (1 : Int32)), .val (.int c0)] [(.int (1 : Int32)), (.ref s')])) rfl rfl (hb hby d17_12) _ (XS.istore X4.here hx rfl (hb hby d17_13) rfl rfl (XS.iload X4.here hx rfl (hb hby d17_15) rfl (XS.sipush X4.here hx rfl (hb hby d17_17) kk)))) ?_
    by_cases hcc7 : (255 : Int32) < c1
    · refine go_of (B := (T4.setTop (mkF m 25 #[.val (.ref s'), .val (.int (1 : Int32)), .val (.ref d), .val (.int (1 : Int32)), .val (.int (2 : Int32)), .val (.int (1 : Int32)), .val (.int c1)] [(.int (1 : Int32))]))) (fun _ kk => XS.icmpNo X4.here hx rfl (hb hby d17_20) rfl (tlt hcc7).2.2.2 (XS.iload X4.here hx rfl (hb hby d17_23) rfl kk)) ?_
      refine go_end X4 (v := some (.int (1 : Int32))) (fun h => by rw [Bd.returns] at h; cases h) Bd.notSynchronized (by decide) (by decide) (Q := (Q_u_c5_2 Z s' d c0 c1 ks kd h0 n0)) ?_ (fun fs hr => own_retI X4 hx Bd.returns (hb hby d17_25) hr)
      unfold Q_u_c5_2
      try rw [e4]
      exact ⟨_, rfl, N4, ((Keep.refl h0 [d]).wr W4 (Or.inl (List.mem_of_getElem? (i := 0) rfl))), Or.inr (Or.inr (⟨rfl, hcc7⟩))⟩
    · refine go_of (B := (T4.setTop (mkF m 31 #[.val (.ref s'), .val (.int (1 : Int32)), .val (.ref d), .val (.int (1 : Int32)), .val (.int (2 : Int32)), .val (.int (1 : Int32)), .val (.int c1)] [(.int (c1.toInt8.toInt32)), (.int (1 : Int32)), (.ref d)]))) (fun _ kk => XS.icmpYes X4.here hx rfl (pc0 := 20) (pc' := 26) rfl (hb hby d17_20) rfl (flt hcc7).2.2.2 (by decide) (by decide) (XS.aloadN X4.here hx rfl (hb hby d17_26) rfl rfl (XS.iloadN X4.here hx rfl (hb hby d17_27) rfl (XS.iload X4.here hx rfl (hb hby d17_28) rfl (XS.i2b X4.here hx rfl (hb hby d17_30) rfl kk))))) ?_
      obtain ⟨cl8, Ar8, q8, Sz8, Nn8, Hh8, G8⟩ := id (V4)
      obtain ⟨T9, h9, X9, e9, W9, st9⟩ := stB X4 hx hZ e4 Ar8 (j := (1 : Int32)) (inb_of Sz8 ⟨by decide, by decide⟩) (g := (mkF m 31 #[.val (.ref s'), .val (.int (1 : Int32)), .val (.ref d), .val (.int (1 : Int32)), .val (.int (2 : Int32)), .val (.int (1 : Int32)), .val (.int c1)] [(.int (c1.toInt8.toInt32)), (.int (1 : Int32)), (.ref d)])) rfl rfl (hb hby d17_31)
      have sz9 := W9.size
      have N9 := Fr.snoc X9 N4 (g : n0 ≤ d)
      have V9 : Arv Z h9 d kd .byte (2 : Int32) [(.int (c0.toInt8.toInt32)), (.int ((c1.toInt8.toInt32).toInt8.toInt32))] (.int (0 : Int32)) := Arv.set Ar8 q8 Sz8 Nn8 Hh8 G8 (fits_nar_byte _) W9 1 rfl (Nat.le_of_ble_eq_true rfl)
      rw [own_bb] at V9
      refine go_of (B := (T9.setTop (mkF m 32 #[.val (.ref s'), .val (.int (1 : Int32)), .val (.ref d), .val (.int (1 : Int32)), .val (.int (2 : Int32)), .val (.int (1 : Int32)), .val (.int c1)] []))) (st9) ?_
      refine go_of (B := (T9.setTop (mkF m 7 #[.val (.ref s'), .val (.int (2 : Int32)), .val (.ref d), .val (.int (2 : Int32)), .val (.int (2 : Int32)), .val (.int (2 : Int32)), .val (.int c1)] [(.int (2 : Int32)), (.int (2 : Int32))]))) (fun _ kk => XS.iinc X9.here hx rfl (hb hby d17_32) rfl rfl (XS.iinc X9.here hx rfl (hb hby d17_35) rfl rfl (XS.iinc X9.here hx rfl (hb hby d17_38) rfl rfl (XS.goto X9.here hx rfl (pc0 := 41) (pc' := 3) rfl (hb hby d17_41) (by decide) (by decide) (XS.iload X9.here hx rfl (hb hby d17_3) rfl (XS.iload X9.here hx rfl (hb hby d17_5) rfl kk)))))) ?_
      refine go_of (B := (T9.setTop (mkF m 46 #[.val (.ref s'), .val (.int (2 : Int32)), .val (.ref d), .val (.int (2 : Int32)), .val (.int (2 : Int32)), .val (.int (2 : Int32)), .val (.int c1)] [(.int (2 : Int32))]))) (fun _ kk => XS.icmpYes X9.here hx rfl (pc0 := 7) (pc' := 44) rfl (hb hby d17_7) rfl (flt (by decide : ¬ ((2 : Int32) < (2 : Int32)))).2.1 (by decide) (by decide) (XS.iload X9.here hx rfl (hb hby d17_44) rfl kk)) ?_
      refine go_end X9 (v := some (.int (2 : Int32))) (fun h => by rw [Bd.returns] at h; cases h) Bd.notSynchronized (by decide) (by decide) (Q := (Q_u_c5_2 Z s' d c0 c1 ks kd h0 n0)) ?_ (fun fs hr => own_retI X9 hx Bd.returns (hb hby d17_46) hr)
      unfold Q_u_c5_2
      try rw [e9]
      exact ⟨_, rfl, N9, (((Keep.refl h0 [d]).wr W4 (Or.inl (List.mem_of_getElem? (i := 0) rfl))).wr W9 (Or.inl (List.mem_of_getElem? (i := 0) rfl))), Or.inl ⟨rfl, hcc2, hcc7, V9⟩⟩
def Q_u_nbl_2 (Z : State)  (h0 : Heap) (n0 : Nat) (v : Option Value) (h : Heap) (L : List Loc) : Prop := v = some (.int 4) ∧ Fr n0 L ∧ h = h0
theorem ef_u_nbl_2 (m : MethodId)   : entryFrame m #[(.int (2 : Int32))] 1 = mkF m 0 #[.val (.int (2 : Int32))] [] := by first | (simp [entryFrame, mkF, argsToLocals, Value.category]; done) | rfl
theorem u_nbl_2 (l : Launch) (Z : State) (a0 : Array Value) (hw : TW a0 Z) (ws : List Cond)  (h0 : Heap) (n0 : Nat) (Z0 : n0 ≤ h0.size)  :
    own_MF l Z MN24 jdk_52_method_3_code 1 (some .int) ws (own_R 0 0 0 0) #[(.int (2 : Int32))] h0 (Q_u_nbl_2 Z  h0 n0) := by
  have wd := @own_wd _ _ hw
  refine MetFree.of_bodySF (plainFor_of_name pn_java_lang_StringUTF16) hisR ?_
  intro p e s m args below meth c s₁ Bd hml0 hP hK
  obtain ⟨rfl, hZ, hh⟩ := hP
  have hx := Bd.exec
  have hby := Bd.bytes
  have hml : c.maxLocals = 1 := hml0
  have hown : s.vm.findClass "java/lang/StringUTF16" = some m.cls := findClass_of_methodNamed Bd.named
  have hnm := (name_of_methodNamed Bd.named Bd.method).1
  have X0 : Stand p l e (own_R 0 0 0 0) s m #[(.int (2 : Int32))] below meth c s₁ [] 0 0 := Stand.of_body Bd
  have e0 : s₁.heap = h0 := by rw [← hh, Bd.state]; rfl
  have N0 := Fr.nil n0
  refine go_of (A := s₁.setTop (entryFrame m #[(.int (2 : Int32))] 1)) (B := s₁.setTop (mkF m 0 #[.val (.int (2 : Int32))] [])) (fun _ kk' => castTop (ef_u_nbl_2 m ) kk') ?_
  refine go_of (B := (s₁.setTop (mkF m 56 #[.val (.int (2 : Int32))] [(.int (2 : Int32))]))) (fun _ kk => XS.iloadN X0.here hx rfl (hb hby d22_0) rfl (XS.ifYes X0.here hx rfl (pc0 := 1) (pc' := 12) rfl (hb hby d22_1) rfl ((if0 _ _).trans (flt (by decide : ¬ ((2 : Int32) < (0 : Int32)))).2.1) (by decide) (by decide) (XS.iloadN X0.here hx rfl (hb hby d22_12) rfl (X0.ldcInt hx hown (mvT hZ (wd 97 rfl)) (g := (mkF m 13 #[.val (.int (2 : Int32))] [(.int (2 : Int32))])) rfl (hb hby d22_13) _ (XS.icmpYes X0.here hx rfl (pc0 := 15) (pc' := 55) rfl (hb hby d22_15) rfl (tlt (by decide : (2 : Int32) < (1073741823 : Int32))).1 (by decide) (by decide) (XS.iloadN X0.here hx rfl (hb hby d22_55) rfl kk)))))) ?_
  refine go_of (B := (s₁.setTop (mkF m 58 #[.val (.int (2 : Int32))] [(.int (4 : Int32))]))) (fun _ kk => XS.iconst X0.here hx rfl (hb hby d22_56) (XS.ishl X0.here hx rfl (hb hby d22_57) rfl kk)) ?_
  refine go_end X0 (v := some (.int (4 : Int32))) (fun h => by rw [Bd.returns] at h; cases h) Bd.notSynchronized (by decide) (by decide) (Q := (Q_u_nbl_2 Z  h0 n0)) ?_ (fun fs hr => own_retI X0 hx Bd.returns (hb hby d22_58) hr)
  unfold Q_u_nbl_2
  try rw [e0]
  exact ⟨rfl, N0, rfl⟩
def Q_u_nbf_2 (Z : State)  (h0 : Heap) (n0 : Nat) (v : Option Value) (h : Heap) (L : List Loc) : Prop := ∃ (t : Addr) (k : ClassId), v = some (.ref t) ∧ Fr n0 L ∧ h0.size ≤ t ∧ Keep h0 h [] ∧ Arv Z h t k .byte 4 [(.int 0), (.int 0), (.int 0), (.int 0)] (.int 0)
theorem ef_u_nbf_2 (m : MethodId)   : entryFrame m #[(.int (2 : Int32))] 1 = mkF m 0 #[.val (.int (2 : Int32))] [] := by first | (simp [entryFrame, mkF, argsToLocals, Value.category]; done) | rfl
theorem u_nbf_2 (l : Launch) (Z : State) (a0 : Array Value) (hw : TW a0 Z) (ws : List Cond)  (h0 : Heap) (n0 : Nat) (Z0 : n0 ≤ h0.size)  :
    own_MF l Z MN23 jdk_52_method_2_code 1 (some (.array .byte)) ws (own_R 1 1 4 12) #[(.int (2 : Int32))] h0 (Q_u_nbf_2 Z  h0 n0) := by
  have wd := @own_wd _ _ hw
  refine MetFree.of_bodySF (plainFor_of_name pn_java_lang_StringUTF16) hisR ?_
  intro p e s m args below meth c s₁ Bd hml0 hP hK
  obtain ⟨rfl, hZ, hh⟩ := hP
  have hx := Bd.exec
  have hby := Bd.bytes
  have hml : c.maxLocals = 1 := hml0
  have hown : s.vm.findClass "java/lang/StringUTF16" = some m.cls := findClass_of_methodNamed Bd.named
  have hnm := (name_of_methodNamed Bd.named Bd.method).1
  have X0 : Stand p l e (own_R 1 1 4 12) s m #[(.int (2 : Int32))] below meth c s₁ [] 0 0 := Stand.of_body Bd
  have e0 : s₁.heap = h0 := by rw [← hh, Bd.state]; rfl
  have N0 := Fr.nil n0
  refine go_of (A := s₁.setTop (entryFrame m #[(.int (2 : Int32))] 1)) (B := s₁.setTop (mkF m 0 #[.val (.int (2 : Int32))] [])) (fun _ kk' => castTop (ef_u_nbf_2 m ) kk') ?_
  refine go_of (B := (s₁.setTop (mkF m 1 #[.val (.int (2 : Int32))] [(.int (2 : Int32))]))) (fun _ kk => XS.iloadN X0.here hx rfl (hb hby d21_0) rfl kk) ?_
  obtain ⟨_, _, ⟨T1, L1, k1, n1⟩, -, X1, ⟨Lc1, hQ1, l1, y1, z1⟩, st1⟩ := Jvm.LawKit.callS X0 hx (y := MN24) hown (mvT hZ (wd 94 rfl)) (mvT hZ (wd 95 rfl)) (mvT hZ (wd 77 rfl)) (mvT hZ (wd 96 rfl)) (by decide) (backOf (W := 0) (u_nbl_2 l Z a0 hw [] h0 n0 (by omega)) hZ (wd 96 rfl) (wd 77 rfl) (by decide) (by decide)) (g := (mkF m 1 #[.val (.int (2 : Int32))] [(.int (2 : Int32))])) rfl (by rw [hml]; rfl) (argsL := [(.int (2 : Int32))]) (rest := []) (lenOf pd__I_I rfl) rfl (Nat.le_of_eq rfl) (hb hby d21_1) (fun _ _ => ⟨rfl, e0, (by decide : 0 + 0 ≤ _), (by decide : 0 + 0 ≤ _)⟩)
  dsimp only [Pt.U, Pt.locs, Pt.cells, Pt.slots] at X1 l1 y1 z1 st1 hQ1
  subst l1 y1 z1
  obtain ⟨rfl, N1q, e1⟩ := hQ1
  have N1 := Fr.app N0 N1q
  refine go_of (B := (T1.setTop (mkF m 4 #[.val (.int (2 : Int32))] [(.int (4 : Int32))]))) (st1) ?_
  obtain ⟨T2, h2, k2, X2, e2, E2, A2, st2⟩ := newP X1 hx hZ (wd 21 rfl) e1 (g := (mkF m 4 #[.val (.int (2 : Int32))] [(.int (4 : Int32))])) rfl (hb hby d21_4) rfl (by decide) (cap := 4) (by decide) (by decide) (by decide) (by decide)
  obtain ⟨b2, g2⟩ : ∃ z, z = h0.size := ⟨_, rfl⟩
  rw [← g2] at A2 st2
  have hi2 := own_nlt A2.lt
  have sz2 := E2.1
  have V2 : Arv Z h2 b2 k2 .byte (4 : Int32) [(.int (0 : Int32)), (.int (0 : Int32)), (.int (0 : Int32)), (.int (0 : Int32))] (.int (0 : Int32)) := (Arv.new A2 (by decide)).pad (pad_rep [] (.int (0 : Int32)) 4)
  refine go_of (B := (T2.setTop (mkF m 6 #[.val (.int (2 : Int32))] [(.ref b2)]))) (st2) ?_
  refine go_end X2 (v := some (.ref b2)) (fun h => by rw [Bd.returns] at h; cases h) Bd.notSynchronized (by decide) (by decide) (Q := (Q_u_nbf_2 Z  h0 n0)) ?_ (fun fs hr => own_retA X2 hx Bd.returns rfl rfl (hb hby d21_6) hr)
  unfold Q_u_nbf_2
  try rw [e2]
  exact ⟨b2, k2, rfl, N1, by omega, ((Keep.refl h0 []).ext E2), V2⟩
def Q_u_tob_2 (Z : State) (s' : Addr) (c0 : Int32) (c1 : Int32) (ks : ClassId) (h0 : Heap) (n0 : Nat) (v : Option Value) (h : Heap) (L : List Loc) : Prop := ∃ (t : Addr) (k : ClassId), v = some (.ref t) ∧ Fr n0 L ∧ h0.size ≤ t ∧ Keep h0 h [] ∧ Arv Z h t k .byte 4 [(.int (own_b0 c0)), (.int (own_b1 c0)), (.int (own_b0 c1)), (.int (own_b1 c1))] (.int 0)
theorem ef_u_tob_2 (m : MethodId) (s' : Addr)  : entryFrame m #[(.ref s'), (.int (0 : Int32)), (.int (2 : Int32))] 5 = mkF m 0 #[.val (.ref s'), .val (.int (0 : Int32)), .val (.int (2 : Int32)), .unset, .unset] [] := by first | (simp [entryFrame, mkF, argsToLocals, Value.category]; done) | rfl
theorem u_tob_2 (l : Launch) (Z : State) (a0 : Array Value) (hw : TW a0 Z) (ws : List Cond) (s' : Addr) (c0 : Int32) (c1 : Int32) (ks : ClassId) (h0 : Heap) (n0 : Nat) (Z0 : n0 ≤ h0.size) (O : Old Z n0 h0) (SU : US Z) (Vs : Arv Z h0 s' ks .char 2 [(.int c0), (.int c1)] (.int 0)) :
    own_MF l Z MN26 jdk_52_method_14_code 5 (some (.array .byte)) ws (own_R 2 1 4 24) #[(.ref s'), (.int (0 : Int32)), (.int (2 : Int32))] h0 (Q_u_tob_2 Z s' c0 c1 ks h0 n0) := by
  have wd := @own_wd _ _ hw
  refine MetFree.of_bodySF (plainFor_of_name pn_java_lang_StringUTF16) hisR ?_
  intro p e s m args below meth c s₁ Bd hml0 hP hK
  obtain ⟨rfl, hZ, hh⟩ := hP
  have hx := Bd.exec
  have hby := Bd.bytes
  have hml : c.maxLocals = 5 := hml0
  have hown : s.vm.findClass "java/lang/StringUTF16" = some m.cls := findClass_of_methodNamed Bd.named
  have hnm := (name_of_methodNamed Bd.named Bd.method).1
  have X0 : Stand p l e (own_R 2 1 4 24) s m #[(.ref s'), (.int (0 : Int32)), (.int (2 : Int32))] below meth c s₁ [] 0 0 := Stand.of_body Bd
  have e0 : s₁.heap = h0 := by rw [← hh, Bd.state]; rfl
  have N0 := Fr.nil n0
  have lts := own_nlt (Vs.lt)
  refine go_of (A := s₁.setTop (entryFrame m #[(.ref s'), (.int (0 : Int32)), (.int (2 : Int32))] 5)) (B := s₁.setTop (mkF m 0 #[.val (.ref s'), .val (.int (0 : Int32)), .val (.int (2 : Int32)), .unset, .unset] [])) (fun _ kk' => castTop (ef_u_tob_2 m s') kk') ?_
  refine go_of (B := (s₁.setTop (mkF m 1 #[.val (.ref s'), .val (.int (0 : Int32)), .val (.int (2 : Int32)), .unset, .unset] [(.int (2 : Int32))]))) (fun _ kk => XS.iloadN X0.here hx rfl (hb hby d20_0) rfl kk) ?_
  obtain ⟨_, _, ⟨T1, L1, k1, n1⟩, -, X1, ⟨Lc1, hQ1, l1, y1, z1⟩, st1⟩ := Jvm.LawKit.callS X0 hx (y := MN23) hown (mvT hZ (wd 91 rfl)) (mvT hZ (wd 92 rfl)) (mvT hZ (wd 77 rfl)) (mvT hZ (wd 93 rfl)) (by decide) (backOf (W := 0) (u_nbf_2 l Z a0 hw [] h0 n0 (by omega)) hZ (wd 93 rfl) (wd 77 rfl) (by decide) (by decide)) (g := (mkF m 1 #[.val (.ref s'), .val (.int (0 : Int32)), .val (.int (2 : Int32)), .unset, .unset] [(.int (2 : Int32))])) rfl (by rw [hml]; rfl) (argsL := [(.int (2 : Int32))]) (rest := []) (lenOf pd__I__B rfl) rfl (Nat.le_of_eq rfl) (hb hby d20_1) (fun _ _ => ⟨rfl, e0, (by decide : 0 + 1 ≤ _), (by decide : 0 + 4 ≤ _)⟩)
  dsimp only [Pt.U, Pt.locs, Pt.cells, Pt.slots] at X1 l1 y1 z1 st1 hQ1
  subst l1 y1 z1
  obtain ⟨b1, k1, rfl, N1q, lo1, K1, V1⟩ := hQ1
  have lo1 := own_nle lo1
  have N1 := Fr.app N0 N1q
  have hi1 := own_nlt (V1.lt)
  have sz1 := K1.1
  refine go_of (B := (T1.setTop (mkF m 4 #[.val (.ref s'), .val (.int (0 : Int32)), .val (.int (2 : Int32)), .unset, .unset] [(.ref b1)]))) (st1) ?_
  refine go_of (B := (T1.setTop (mkF m 14 #[.val (.ref s'), .val (.int (0 : Int32)), .val (.int (2 : Int32)), .val (.ref b1), .val (.int (0 : Int32))] []))) (fun _ kk => XS.astoreN X1.here hx rfl (hb hby d20_4) rfl rfl rfl (XS.iconst X1.here hx rfl (hb hby d20_5) (XS.istore X1.here hx rfl (hb hby d20_6) rfl rfl (XS.iload X1.here hx rfl (hb hby d20_8) rfl (XS.iloadN X1.here hx rfl (hb hby d20_10) rfl (XS.icmpNo X1.here hx rfl (hb hby d20_11) rfl (tlt (by decide : (0 : Int32) < (2 : Int32))).2.1 kk)))))) ?_
  refine go_of (B := (T1.setTop (mkF m 19 #[.val (.ref s'), .val (.int (0 : Int32)), .val (.int (2 : Int32)), .val (.ref b1), .val (.int (0 : Int32))] [(.int (0 : Int32)), (.ref s'), (.int (0 : Int32)), (.ref b1)]))) (fun _ kk => XS.aloadN X1.here hx rfl (hb hby d20_14) rfl rfl (XS.iload X1.here hx rfl (hb hby d20_15) rfl (XS.aloadN X1.here hx rfl (hb hby d20_17) rfl rfl (XS.iloadN X1.here hx rfl (hb hby d20_18) rfl kk)))) ?_
  have cf_2 := (Vs.keep K1 nin0)
  obtain ⟨cl3, Ar3, q3, Sz3, Nn3, Hh3, G3⟩ := id (cf_2)
  refine go_of (B := (T1.setTop (mkF m 20 #[.val (.ref s'), .val (.int (0 : Int32)), .val (.int (2 : Int32)), .val (.ref b1), .val (.int (0 : Int32))] [(.int c0), (.int (0 : Int32)), (.ref b1)]))) (fun _ kk => X1.caload hx (j := (0 : Int32)) (v := (.int c0)) (by exact Ar3.1) (State.isArrayOf_alike hZ.alike Ar3.2.1) Ar3.2.2 (inb_of Sz3 ⟨by decide, by decide⟩) (Hh3.at (inb_of Sz3 ⟨by decide, by decide⟩) rfl) (g := (mkF m 19 #[.val (.ref s'), .val (.int (0 : Int32)), .val (.int (2 : Int32)), .val (.ref b1), .val (.int (0 : Int32))] [(.int (0 : Int32)), (.ref s'), (.int (0 : Int32)), (.ref b1)])) rfl rfl (hb hby d20_19) _ kk) ?_
  have cf_4 := (O.keep K1 all0)
  obtain ⟨_, _, ⟨T5, L5, k5, n5⟩, -, X5, ⟨Lc5, hQ5, l5, y5, z5⟩, st5⟩ := Jvm.LawKit.callS X1 hx (y := MN25) hown (mvT hZ (wd 98 rfl)) (mvT hZ (wd 99 rfl)) (mvT hZ (wd 77 rfl)) (mvT hZ (wd 100 rfl)) (by decide) (backOf (W := 0) (u_put l Z a0 hw [] b1 (0 : Int32) c0 (4 : Int32) _ 0 1 k1 T1.heap n0 (by omega) cf_4 SU V1 (by first | omega | exact own_ne (by omega) | exact own_le (by omega)) (by decide) (by decide) rfl rfl (Nat.le_of_ble_eq_true rfl) (Nat.le_of_ble_eq_true rfl)) hZ (wd 100 rfl) (wd 77 rfl) (by decide) (by decide)) (g := (mkF m 20 #[.val (.ref s'), .val (.int (0 : Int32)), .val (.int (2 : Int32)), .val (.ref b1), .val (.int (0 : Int32))] [(.int c0), (.int (0 : Int32)), (.ref b1)])) rfl (by rw [hml]; rfl) (argsL := [(.ref b1), (.int (0 : Int32)), (.int c0)]) (rest := []) (lenOf pd___BII_V rfl) rfl (Nat.le_of_eq rfl) (hb hby d20_20) (fun _ _ => ⟨rfl, rfl, (by decide : 1 + 0 ≤ _), (by decide : 4 + 0 ≤ _)⟩)
  dsimp only [Pt.U, Pt.locs, Pt.cells, Pt.slots] at X5 l5 y5 z5 st5 hQ5
  subst l5 y5 z5
  obtain ⟨rfl, N5q, K5, V5⟩ := hQ5
  have N5 := Fr.app N1 N5q
  have sz5 := K5.1
  refine go_of (B := (T5.setTop (mkF m 23 #[.val (.ref s'), .val (.int (0 : Int32)), .val (.int (2 : Int32)), .val (.ref b1), .val (.int (0 : Int32))] []))) (st5) ?_
  refine go_of (B := (T5.setTop (mkF m 14 #[.val (.ref s'), .val (.int (1 : Int32)), .val (.int (2 : Int32)), .val (.ref b1), .val (.int (1 : Int32))] []))) (fun _ kk => XS.iinc X5.here hx rfl (hb hby d20_23) rfl rfl (XS.iinc X5.here hx rfl (hb hby d20_26) rfl rfl (XS.goto X5.here hx rfl (pc0 := 29) (pc' := 8) rfl (hb hby d20_29) (by decide) (by decide) (XS.iload X5.here hx rfl (hb hby d20_8) rfl (XS.iloadN X5.here hx rfl (hb hby d20_10) rfl (XS.icmpNo X5.here hx rfl (hb hby d20_11) rfl (tlt (by decide : (1 : Int32) < (2 : Int32))).2.1 kk)))))) ?_
  refine go_of (B := (T5.setTop (mkF m 19 #[.val (.ref s'), .val (.int (1 : Int32)), .val (.int (2 : Int32)), .val (.ref b1), .val (.int (1 : Int32))] [(.int (1 : Int32)), (.ref s'), (.int (1 : Int32)), (.ref b1)]))) (fun _ kk => XS.aloadN X5.here hx rfl (hb hby d20_14) rfl rfl (XS.iload X5.here hx rfl (hb hby d20_15) rfl (XS.aloadN X5.here hx rfl (hb hby d20_17) rfl rfl (XS.iloadN X5.here hx rfl (hb hby d20_18) rfl kk)))) ?_
  have cf_6 := (cf_2.keep K5 (ninS (by first | omega | exact own_ne (by omega) | exact own_le (by omega)) nin0))
  obtain ⟨cl7, Ar7, q7, Sz7, Nn7, Hh7, G7⟩ := id (cf_6)
  refine go_of (B := (T5.setTop (mkF m 20 #[.val (.ref s'), .val (.int (1 : Int32)), .val (.int (2 : Int32)), .val (.ref b1), .val (.int (1 : Int32))] [(.int c1), (.int (1 : Int32)), (.ref b1)]))) (fun _ kk => X5.caload hx (j := (1 : Int32)) (v := (.int c1)) (by exact Ar7.1) (State.isArrayOf_alike hZ.alike Ar7.2.1) Ar7.2.2 (inb_of Sz7 ⟨by decide, by decide⟩) (Hh7.at (inb_of Sz7 ⟨by decide, by decide⟩) rfl) (g := (mkF m 19 #[.val (.ref s'), .val (.int (1 : Int32)), .val (.int (2 : Int32)), .val (.ref b1), .val (.int (1 : Int32))] [(.int (1 : Int32)), (.ref s'), (.int (1 : Int32)), (.ref b1)])) rfl rfl (hb hby d20_19) _ kk) ?_
  have cf_8 := (cf_4.keep K5 (allS (by first | omega | exact own_ne (by omega) | exact own_le (by omega)) all0))
  obtain ⟨_, _, ⟨T9, L9, k9, n9⟩, -, X9, ⟨Lc9, hQ9, l9, y9, z9⟩, st9⟩ := Jvm.LawKit.callS X5 hx (y := MN25) hown (mvT hZ (wd 98 rfl)) (mvT hZ (wd 99 rfl)) (mvT hZ (wd 77 rfl)) (mvT hZ (wd 100 rfl)) (by decide) (backOf (W := 0) (u_put l Z a0 hw [] b1 (1 : Int32) c1 (4 : Int32) _ 2 3 k1 T5.heap n0 (by omega) cf_8 SU V5 (by first | omega | exact own_ne (by omega) | exact own_le (by omega)) (by decide) (by decide) rfl rfl (Nat.le_of_ble_eq_true rfl) (Nat.le_of_ble_eq_true rfl)) hZ (wd 100 rfl) (wd 77 rfl) (by decide) (by decide)) (g := (mkF m 20 #[.val (.ref s'), .val (.int (1 : Int32)), .val (.int (2 : Int32)), .val (.ref b1), .val (.int (1 : Int32))] [(.int c1), (.int (1 : Int32)), (.ref b1)])) rfl (by rw [hml]; rfl) (argsL := [(.ref b1), (.int (1 : Int32)), (.int c1)]) (rest := []) (lenOf pd___BII_V rfl) rfl (Nat.le_of_eq rfl) (hb hby d20_20) (fun _ _ => ⟨rfl, rfl, (by decide : 1 + 0 ≤ _), (by decide : 4 + 0 ≤ _)⟩)
  dsimp only [Pt.U, Pt.locs, Pt.cells, Pt.slots] at X9 l9 y9 z9 st9 hQ9
  subst l9 y9 z9
  obtain ⟨rfl, N9q, K9, V9⟩ := hQ9
  have N9 := Fr.app N5 N9q
  have sz9 := K9.1
  refine go_of (B := (T9.setTop (mkF m 23 #[.val (.ref s'), .val (.int (1 : Int32)), .val (.int (2 : Int32)), .val (.ref b1), .val (.int (1 : Int32))] []))) (st9) ?_
  refine go_of (B := (T9.setTop (mkF m 32 #[.val (.ref s'), .val (.int (2 : Int32)), .val (.int (2 : Int32)), .val (.ref b1), .val (.int (2 : Int32))] []))) (fun _ kk => XS.iinc X9.here hx rfl (hb hby d20_23) rfl rfl (XS.iinc X9.here hx rfl (hb hby d20_26) rfl rfl (XS.goto X9.here hx rfl (pc0 := 29) (pc' := 8) rfl (hb hby d20_29) (by decide) (by decide) (XS.iload X9.here hx rfl (hb hby d20_8) rfl (XS.iloadN X9.here hx rfl (hb hby d20_10) rfl (XS.icmpYes X9.here hx rfl (pc0 := 11) (pc' := 32) rfl (hb hby d20_11) rfl (flt (by decide : ¬ ((2 : Int32) < (2 : Int32)))).2.1 (by decide) (by decide) kk)))))) ?_
  refine go_of (B := (T9.setTop (mkF m 33 #[.val (.ref s'), .val (.int (2 : Int32)), .val (.int (2 : Int32)), .val (.ref b1), .val (.int (2 : Int32))] [(.ref b1)]))) (fun _ kk => XS.aloadN X9.here hx rfl (hb hby d20_32) rfl rfl kk) ?_
  refine go_end X9 (v := some (.ref b1)) (fun h => by rw [Bd.returns] at h; cases h) Bd.notSynchronized (by decide) (by decide) (Q := (Q_u_tob_2 Z s' c0 c1 ks h0 n0)) ?_ (fun fs hr => own_retA X9 hx Bd.returns rfl rfl (hb hby d20_33) hr)
  unfold Q_u_tob_2
  exact ⟨b1, k1, rfl, N9, by omega, ((((Keep.refl h0 []).trans K1 all0).trans K5 (allS (Or.inr (by first | omega | exact own_ne (by omega) | exact own_le (by omega))) all0)).trans K9 (allS (Or.inr (by first | omega | exact own_ne (by omega) | exact own_le (by omega))) all0)), V9⟩
def Q_u_c3_2 (Z : State) (s' : Addr) (c0 : Int32) (c1 : Int32) (ks : ClassId) (h0 : Heap) (n0 : Nat) (v : Option Value) (h : Heap) (L : List Loc) : Prop := ∃ (t : Addr) (k : ClassId), v = some (.ref t) ∧ Fr n0 L ∧ h0.size ≤ t ∧ Keep h0 h [] ∧ ((¬ (255 : Int32) < c0 ∧ ¬ (255 : Int32) < c1 ∧ Arv Z h t k .byte 2 [(.int (own_b8 c0)), (.int (own_b8 c1))] (.int 0)) ∨ Arv Z h t k .byte 4 [(.int (own_b0 c0)), (.int (own_b1 c0)), (.int (own_b0 c1)), (.int (own_b1 c1))] (.int 0))
theorem ef_u_c3_2 (m : MethodId) (s' : Addr)  : entryFrame m #[(.ref s'), (.int (0 : Int32)), (.int (2 : Int32))] 6 = mkF m 0 #[.val (.ref s'), .val (.int (0 : Int32)), .val (.int (2 : Int32)), .unset, .unset, .unset] [] := by first | (simp [entryFrame, mkF, argsToLocals, Value.category]; done) | rfl
theorem u_c3_2 (l : Launch) (Z : State) (a0 : Array Value) (hw : TW a0 Z) (ws : List Cond) (s' : Addr) (c0 : Int32) (c1 : Int32) (ks : ClassId) (h0 : Heap) (n0 : Nat) (Z0 : n0 ≤ h0.size) (O : Old Z n0 h0) (SU : US Z) (Vs : Arv Z h0 s' ks .char 2 [(.int c0), (.int c1)] (.int 0)) (hc0 : ¬ c0 < 0 ∧ ¬ (65535 : Int32) < c0) (hc1 : ¬ c1 < 0 ∧ ¬ (65535 : Int32) < c1) :
    own_MF l Z MN17 jdk_52_method_16_code 6 (some (.array .byte)) ws (own_R 3 2 6 40) #[(.ref s'), (.int (0 : Int32)), (.int (2 : Int32))] h0 (Q_u_c3_2 Z s' c0 c1 ks h0 n0) := by
  have wd := @own_wd _ _ hw
  refine MetFree.of_bodySF (plainFor_of_name pn_java_lang_StringUTF16) hisR ?_
  intro p e s m args below meth c s₁ Bd hml0 hP hK
  obtain ⟨rfl, hZ, hh⟩ := hP
  have hx := Bd.exec
  have hby := Bd.bytes
  have hml : c.maxLocals = 6 := hml0
  have hown : s.vm.findClass "java/lang/StringUTF16" = some m.cls := findClass_of_methodNamed Bd.named
  have hnm := (name_of_methodNamed Bd.named Bd.method).1
  have X0 : Stand p l e (own_R 3 2 6 40) s m #[(.ref s'), (.int (0 : Int32)), (.int (2 : Int32))] below meth c s₁ [] 0 0 := Stand.of_body Bd
  have e0 : s₁.heap = h0 := by rw [← hh, Bd.state]; rfl
  have N0 := Fr.nil n0
  have lts := own_nlt (Vs.lt)
  refine go_of (A := s₁.setTop (entryFrame m #[(.ref s'), (.int (0 : Int32)), (.int (2 : Int32))] 6)) (B := s₁.setTop (mkF m 0 #[.val (.ref s'), .val (.int (0 : Int32)), .val (.int (2 : Int32)), .unset, .unset, .unset] [])) (fun _ kk' => castTop (ef_u_c3_2 m s') kk') ?_
  refine go_of (B := (s₁.setTop (mkF m 1 #[.val (.ref s'), .val (.int (0 : Int32)), .val (.int (2 : Int32)), .unset, .unset, .unset] [(.int (2 : Int32))]))) (fun _ kk => XS.iloadN X0.here hx rfl (hb hby d16_0) rfl kk) ?_
  obtain ⟨T1, h1, k1, X1, e1, E1, A1, st1⟩ := newP X0 hx hZ (wd 21 rfl) e0 (g := (mkF m 1 #[.val (.ref s'), .val (.int (0 : Int32)), .val (.int (2 : Int32)), .unset, .unset, .unset] [(.int (2 : Int32))])) rfl (hb hby d16_1) rfl (by decide) (cap := 2) (by decide) (by decide) (by decide) (by decide)
  obtain ⟨b1, g1⟩ : ∃ z, z = h0.size := ⟨_, rfl⟩
  rw [← g1] at A1 st1
  have hi1 := own_nlt A1.lt
  have sz1 := E1.1
  have V1 : Arv Z h1 b1 k1 .byte (2 : Int32) [(.int (0 : Int32)), (.int (0 : Int32))] (.int (0 : Int32)) := (Arv.new A1 (by decide)).pad (pad_rep [] (.int (0 : Int32)) 2)
  refine go_of (B := (T1.setTop (mkF m 3 #[.val (.ref s'), .val (.int (0 : Int32)), .val (.int (2 : Int32)), .unset, .unset, .unset] [(.ref b1)]))) (st1) ?_
  refine go_of (B := (T1.setTop (mkF m 9 #[.val (.ref s'), .val (.int (0 : Int32)), .val (.int (2 : Int32)), .val (.ref b1), .unset, .unset] [(.int (2 : Int32)), (.int (0 : Int32)), (.ref b1), (.int (0 : Int32)), (.ref s')]))) (fun _ kk => XS.astoreN X1.here hx rfl (hb hby d16_3) rfl rfl rfl (XS.aloadN X1.here hx rfl (hb hby d16_4) rfl rfl (XS.iloadN X1.here hx rfl (hb hby d16_5) rfl (XS.aloadN X1.here hx rfl (hb hby d16_6) rfl rfl (XS.iconst X1.here hx rfl (hb hby d16_7) (XS.iloadN X1.here hx rfl (hb hby d16_8) rfl kk)))))) ?_
  have cf_2 := (Vs.ext E1)
  obtain ⟨_, _, ⟨T3, L3, k3, n3⟩, -, X3, ⟨Lc3, hQ3, l3, y3, z3⟩, st3⟩ := Jvm.LawKit.callS X1 hx (y := MN18) hown (mvT hZ (wd 79 rfl)) (mvT hZ (wd 80 rfl)) (mvT hZ (wd 77 rfl)) (mvT hZ (wd 81 rfl)) (by decide) (backOf (W := 0) (u_c5_2 l Z a0 hw [] s' b1 c0 c1 ks k1 h1 n0 (by omega) cf_2 V1 (by first | omega | exact own_ne (by omega) | exact own_le (by omega)) (by first | omega | exact own_ne (by omega) | exact own_le (by omega))) hZ (wd 81 rfl) (wd 77 rfl) (by decide) (by decide)) (g := (mkF m 9 #[.val (.ref s'), .val (.int (0 : Int32)), .val (.int (2 : Int32)), .val (.ref b1), .unset, .unset] [(.int (2 : Int32)), (.int (0 : Int32)), (.ref b1), (.int (0 : Int32)), (.ref s')])) rfl (by rw [hml]; rfl) (argsL := [(.ref s'), (.int (0 : Int32)), (.ref b1), (.int (0 : Int32)), (.int (2 : Int32))]) (rest := []) (lenOf pd___CI_BII_I rfl) rfl (Nat.le_of_eq rfl) (hb hby d16_9) (fun _ _ => ⟨rfl, e1, (by decide : 1 + 0 ≤ _), (by decide : 2 + 0 ≤ _)⟩)
  dsimp only [Pt.U, Pt.locs, Pt.cells, Pt.slots] at X3 l3 y3 z3 st3 hQ3
  subst l3 y3 z3
  obtain ⟨r3, rfl, N3q, K3, H3⟩ := hQ3
  have N3 := Fr.app N0 N3q
  have sz3 := K3.1
  refine go_of (B := (T3.setTop (mkF m 12 #[.val (.ref s'), .val (.int (0 : Int32)), .val (.int (2 : Int32)), .val (.ref b1), .unset, .unset] [(.int r3)]))) (st3) ?_
  rcases H3 with ⟨rfl, hl0, hl1, V3⟩ | ⟨rfl, hg⟩ | ⟨rfl, hg⟩
  · refine go_of (B := (T3.setTop (mkF m 58 #[.val (.ref s'), .val (.int (0 : Int32)), .val (.int (2 : Int32)), .val (.ref b1), .val (.int (2 : Int32)), .unset] [(.ref b1)]))) (fun _ kk => XS.istore X3.here hx rfl (hb hby d16_12) rfl rfl (XS.iload X3.here hx rfl (hb hby d16_14) rfl (XS.iloadN X3.here hx rfl (hb hby d16_16) rfl (XS.icmpYes X3.here hx rfl (pc0 := 17) (pc' := 57) rfl (hb hby d16_17) rfl (teq (by decide : (2 : Int32) = (2 : Int32))).1 (by decide) (by decide) (XS.aloadN X3.here hx rfl (hb hby d16_57) rfl rfl kk))))) ?_
    refine go_end X3 (v := some (.ref b1)) (fun h => by rw [Bd.returns] at h; cases h) Bd.notSynchronized (by decide) (by decide) (Q := (Q_u_c3_2 Z s' c0 c1 ks h0 n0)) ?_ (fun fs hr => own_retA X3 hx Bd.returns rfl rfl (hb hby d16_58) hr)
    unfold Q_u_c3_2
    exact ⟨b1, k1, rfl, N3, by omega, (((Keep.refl h0 []).ext E1).trans K3 (allS (Or.inr (by first | omega | exact own_ne (by omega) | exact own_le (by omega))) all0)), Or.inl ⟨hl0, hl1, V3⟩⟩
  · refine go_of (B := (T3.setTop (mkF m 22 #[.val (.ref s'), .val (.int (0 : Int32)), .val (.int (2 : Int32)), .val (.ref b1), .val (.int (0 : Int32)), .unset] [(.int (0 : Int32)), (.ref s')]))) (fun _ kk => XS.istore X3.here hx rfl (hb hby d16_12) rfl rfl (XS.iload X3.here hx rfl (hb hby d16_14) rfl (XS.iloadN X3.here hx rfl (hb hby d16_16) rfl (XS.icmpNo X3.here hx rfl (hb hby d16_17) rfl (feq (by decide : ¬ ((0 : Int32) = (2 : Int32)))).1 (XS.aloadN X3.here hx rfl (hb hby d16_20) rfl rfl (XS.iloadN X3.here hx rfl (hb hby d16_21) rfl kk)))))) ?_
    refine go_of (B := (T3.setTop (mkF m 23 #[.val (.ref s'), .val (.int (0 : Int32)), .val (.int (2 : Int32)), .val (.ref b1), .val (.int (0 : Int32)), .unset] [(.int (2 : Int32)), (.int (0 : Int32)), (.ref s')]))) (fun _ kk => XS.iloadN X3.here hx rfl (hb hby d16_22) rfl kk) ?_
    have cf_4 := ((O.ext E1).keep K3 (allS (by first | omega | exact own_ne (by omega) | exact own_le (by omega)) all0))
    have cf_5 := (cf_2.keep K3 (ninS (by first | omega | exact own_ne (by omega) | exact own_le (by omega)) nin0))
    obtain ⟨_, _, ⟨T6, L6, k6, n6⟩, -, X6, ⟨Lc6, hQ6, l6, y6, z6⟩, st6⟩ := Jvm.LawKit.callS X3 hx (y := MN26) hown (mvT hZ (wd 88 rfl)) (mvT hZ (wd 89 rfl)) (mvT hZ (wd 77 rfl)) (mvT hZ (wd 90 rfl)) (by decide) (backOf (W := 0) (u_tob_2 l Z a0 hw [] s' c0 c1 ks T3.heap n0 (by omega) cf_4 SU cf_5) hZ (wd 90 rfl) (wd 77 rfl) (by decide) (by decide)) (g := (mkF m 23 #[.val (.ref s'), .val (.int (0 : Int32)), .val (.int (2 : Int32)), .val (.ref b1), .val (.int (0 : Int32)), .unset] [(.int (2 : Int32)), (.int (0 : Int32)), (.ref s')])) rfl (by rw [hml]; rfl) (argsL := [(.ref s'), (.int (0 : Int32)), (.int (2 : Int32))]) (rest := []) (lenOf pd___CII__B rfl) rfl (Nat.le_of_eq rfl) (hb hby d16_23) (fun _ _ => ⟨rfl, rfl, (by decide : 1 + 1 ≤ _), (by decide : 2 + 4 ≤ _)⟩)
    dsimp only [Pt.U, Pt.locs, Pt.cells, Pt.slots] at X6 l6 y6 z6 st6 hQ6
    subst l6 y6 z6
    obtain ⟨b6, k6, rfl, N6q, lo6, K6, V6⟩ := hQ6
    have lo6 := own_nle lo6
    have N6 := Fr.app N3 N6q
    have hi6 := own_nlt (V6.lt)
    have sz6 := K6.1
    refine go_of (B := (T6.setTop (mkF m 26 #[.val (.ref s'), .val (.int (0 : Int32)), .val (.int (2 : Int32)), .val (.ref b1), .val (.int (0 : Int32)), .unset] [(.ref b6)]))) (st6) ?_
    refine go_of (B := (T6.setTop (mkF m 32 #[.val (.ref s'), .val (.int (0 : Int32)), .val (.int (2 : Int32)), .val (.ref b1), .val (.int (0 : Int32)), .val (.ref b6)] [(.int (0 : Int32)), (.ref b6)]))) (fun _ kk => XS.astore X6.here hx rfl (hb hby d16_26) rfl rfl rfl (XS.aload X6.here hx rfl (hb hby d16_28) rfl rfl (XS.iload X6.here hx rfl (hb hby d16_30) rfl kk))) ?_
    have cf_7 := (cf_4.keep K6 all0)
    obtain ⟨_, _, ⟨T8, L8, k8, n8⟩, -, X8, ⟨Lc8, hQ8, l8, y8, z8⟩, st8⟩ := Jvm.LawKit.callS X6 hx (y := MN19) hown (mvT hZ (wd 104 rfl)) (mvT hZ (wd 105 rfl)) (mvT hZ (wd 77 rfl)) (mvT hZ (wd 106 rfl)) (by decide) (backOf (W := 0) (u_get l Z a0 hw [] b6 (0 : Int32) (4 : Int32) _ c0 k6 T6.heap n0 (by omega) cf_7 SU V6 (by decide) (by decide) rfl rfl hc0) hZ (wd 106 rfl) (wd 77 rfl) (by decide) (by decide)) (g := (mkF m 32 #[.val (.ref s'), .val (.int (0 : Int32)), .val (.int (2 : Int32)), .val (.ref b1), .val (.int (0 : Int32)), .val (.ref b6)] [(.int (0 : Int32)), (.ref b6)])) rfl (by rw [hml]; rfl) (argsL := [(.ref b6), (.int (0 : Int32))]) (rest := []) (lenOf pd___BI_C rfl) rfl (Nat.le_of_eq rfl) (hb hby d16_32) (fun _ _ => ⟨rfl, rfl, (by decide : 2 + 0 ≤ _), (by decide : 6 + 0 ≤ _)⟩)
    dsimp only [Pt.U, Pt.locs, Pt.cells, Pt.slots] at X8 l8 y8 z8 st8 hQ8
    subst l8 y8 z8
    obtain ⟨rfl, N8q, e8⟩ := hQ8
    have N8 := Fr.app N6 N8q
    refine go_of (B := (T8.setTop (mkF m 35 #[.val (.ref s'), .val (.int (0 : Int32)), .val (.int (2 : Int32)), .val (.ref b1), .val (.int (0 : Int32)), .val (.ref b6)] [(.int c0)]))) (st8) ?_
    refine go_of (B := (T8.setTop (mkF m 56 #[.val (.ref s'), .val (.int (0 : Int32)), .val (.int (2 : Int32)), .val (.ref b1), .val (.int (0 : Int32)), .val (.ref b6)] [(.ref b6)]))) (fun _ kk => XS.sipush X8.here hx rfl (hb hby d16_35) (XS.icmpYes X8.here hx rfl (pc0 := 38) (pc' := 54) rfl (hb hby d16_38) rfl (tlt hg).2.2.1 (by decide) (by decide) (XS.aload X8.here hx rfl (hb hby d16_54) rfl rfl kk))) ?_
    refine go_end X8 (v := some (.ref b6)) (fun h => by rw [Bd.returns] at h; cases h) Bd.notSynchronized (by decide) (by decide) (Q := (Q_u_c3_2 Z s' c0 c1 ks h0 n0)) ?_ (fun fs hr => own_retA X8 hx Bd.returns rfl rfl (hb hby d16_56) hr)
    unfold Q_u_c3_2
    try rw [e8]
    exact ⟨b6, k6, rfl, N8, by omega, ((((Keep.refl h0 []).ext E1).trans K3 (allS (Or.inr (by first | omega | exact own_ne (by omega) | exact own_le (by omega))) all0)).trans K6 all0), Or.inr V6⟩
  · refine go_of (B := (T3.setTop (mkF m 22 #[.val (.ref s'), .val (.int (0 : Int32)), .val (.int (2 : Int32)), .val (.ref b1), .val (.int (1 : Int32)), .unset] [(.int (0 : Int32)), (.ref s')]))) (fun _ kk => XS.istore X3.here hx rfl (hb hby d16_12) rfl rfl (XS.iload X3.here hx rfl (hb hby d16_14) rfl (XS.iloadN X3.here hx rfl (hb hby d16_16) rfl (XS.icmpNo X3.here hx rfl (hb hby d16_17) rfl (feq (by decide : ¬ ((1 : Int32) = (2 : Int32)))).1 (XS.aloadN X3.here hx rfl (hb hby d16_20) rfl rfl (XS.iloadN X3.here hx rfl (hb hby d16_21) rfl kk)))))) ?_
    refine go_of (B := (T3.setTop (mkF m 23 #[.val (.ref s'), .val (.int (0 : Int32)), .val (.int (2 : Int32)), .val (.ref b1), .val (.int (1 : Int32)), .unset] [(.int (2 : Int32)), (.int (0 : Int32)), (.ref s')]))) (fun _ kk => XS.iloadN X3.here hx rfl (hb hby d16_22) rfl kk) ?_
    have cf_9 := ((O.ext E1).keep K3 (allS (by first | omega | exact own_ne (by omega) | exact own_le (by omega)) all0))
    have cf_10 := (cf_2.keep K3 (ninS (by first | omega | exact own_ne (by omega) | exact own_le (by omega)) nin0))
    obtain ⟨_, _, ⟨T11, L11, k11, n11⟩, -, X11, ⟨Lc11, hQ11, l11, y11, z11⟩, st11⟩ := Jvm.LawKit.callS X3 hx (y := MN26) hown (mvT hZ (wd 88 rfl)) (mvT hZ (wd 89 rfl)) (mvT hZ (wd 77 rfl)) (mvT hZ (wd 90 rfl)) (by decide) (backOf (W := 0) (u_tob_2 l Z a0 hw [] s' c0 c1 ks T3.heap n0 (by omega) cf_9 SU cf_10) hZ (wd 90 rfl) (wd 77 rfl) (by decide) (by decide)) (g := (mkF m 23 #[.val (.ref s'), .val (.int (0 : Int32)), .val (.int (2 : Int32)), .val (.ref b1), .val (.int (1 : Int32)), .unset] [(.int (2 : Int32)), (.int (0 : Int32)), (.ref s')])) rfl (by rw [hml]; rfl) (argsL := [(.ref s'), (.int (0 : Int32)), (.int (2 : Int32))]) (rest := []) (lenOf pd___CII__B rfl) rfl (Nat.le_of_eq rfl) (hb hby d16_23) (fun _ _ => ⟨rfl, rfl, (by decide : 1 + 1 ≤ _), (by decide : 2 + 4 ≤ _)⟩)
    dsimp only [Pt.U, Pt.locs, Pt.cells, Pt.slots] at X11 l11 y11 z11 st11 hQ11
    subst l11 y11 z11
    obtain ⟨b11, k11, rfl, N11q, lo11, K11, V11⟩ := hQ11
    have lo11 := own_nle lo11
    have N11 := Fr.app N3 N11q
    have hi11 := own_nlt (V11.lt)
    have sz11 := K11.1
    refine go_of (B := (T11.setTop (mkF m 26 #[.val (.ref s'), .val (.int (0 : Int32)), .val (.int (2 : Int32)), .val (.ref b1), .val (.int (1 : Int32)), .unset] [(.ref b11)]))) (st11) ?_
    refine go_of (B := (T11.setTop (mkF m 32 #[.val (.ref s'), .val (.int (0 : Int32)), .val (.int (2 : Int32)), .val (.ref b1), .val (.int (1 : Int32)), .val (.ref b11)] [(.int (1 : Int32)), (.ref b11)]))) (fun _ kk => XS.astore X11.here hx rfl (hb hby d16_26) rfl rfl rfl (XS.aload X11.here hx rfl (hb hby d16_28) rfl rfl (XS.iload X11.here hx rfl (hb hby d16_30) rfl kk))) ?_
    have cf_12 := (cf_9.keep K11 all0)
    obtain ⟨_, _, ⟨T13, L13, k13, n13⟩, -, X13, ⟨Lc13, hQ13, l13, y13, z13⟩, st13⟩ := Jvm.LawKit.callS X11 hx (y := MN19) hown (mvT hZ (wd 104 rfl)) (mvT hZ (wd 105 rfl)) (mvT hZ (wd 77 rfl)) (mvT hZ (wd 106 rfl)) (by decide) (backOf (W := 0) (u_get l Z a0 hw [] b11 (1 : Int32) (4 : Int32) _ c1 k11 T11.heap n0 (by omega) cf_12 SU V11 (by decide) (by decide) rfl rfl hc1) hZ (wd 106 rfl) (wd 77 rfl) (by decide) (by decide)) (g := (mkF m 32 #[.val (.ref s'), .val (.int (0 : Int32)), .val (.int (2 : Int32)), .val (.ref b1), .val (.int (1 : Int32)), .val (.ref b11)] [(.int (1 : Int32)), (.ref b11)])) rfl (by rw [hml]; rfl) (argsL := [(.ref b11), (.int (1 : Int32))]) (rest := []) (lenOf pd___BI_C rfl) rfl (Nat.le_of_eq rfl) (hb hby d16_32) (fun _ _ => ⟨rfl, rfl, (by decide : 2 + 0 ≤ _), (by decide : 6 + 0 ≤ _)⟩)
    dsimp only [Pt.U, Pt.locs, Pt.cells, Pt.slots] at X13 l13 y13 z13 st13 hQ13
    subst l13 y13 z13
    obtain ⟨rfl, N13q, e13⟩ := hQ13
    have N13 := Fr.app N11 N13q
    refine go_of (B := (T13.setTop (mkF m 35 #[.val (.ref s'), .val (.int (0 : Int32)), .val (.int (2 : Int32)), .val (.ref b1), .val (.int (1 : Int32)), .val (.ref b11)] [(.int c1)]))) (st13) ?_
    refine go_of (B := (T13.setTop (mkF m 56 #[.val (.ref s'), .val (.int (0 : Int32)), .val (.int (2 : Int32)), .val (.ref b1), .val (.int (1 : Int32)), .val (.ref b11)] [(.ref b11)]))) (fun _ kk => XS.sipush X13.here hx rfl (hb hby d16_35) (XS.icmpYes X13.here hx rfl (pc0 := 38) (pc' := 54) rfl (hb hby d16_38) rfl (tlt hg).2.2.1 (by decide) (by decide) (XS.aload X13.here hx rfl (hb hby d16_54) rfl rfl kk))) ?_
    refine go_end X13 (v := some (.ref b11)) (fun h => by rw [Bd.returns] at h; cases h) Bd.notSynchronized (by decide) (by decide) (Q := (Q_u_c3_2 Z s' c0 c1 ks h0 n0)) ?_ (fun fs hr => own_retA X13 hx Bd.returns rfl rfl (hb hby d16_56) hr)
    unfold Q_u_c3_2
    try rw [e13]
    exact ⟨b11, k11, rfl, N13, by omega, ((((Keep.refl h0 []).ext E1).trans K3 (allS (Or.inr (by first | omega | exact own_ne (by omega) | exact own_le (by omega))) all0)).trans K11 all0), Or.inr V11⟩
def Q_str_cf_2 (Z : State) (t : Addr) (k : ClassId) (vs : List Value) (h0 : Heap) (n0 : Nat) (v : Option Value) (h : Heap) (L : List Loc) : Prop := v = some (.int 0) ∧ Fr n0 L ∧ h = h0
theorem ef_str_cf_2 (m : MethodId) (t : Addr)  : entryFrame m #[(.ref t), (.int (2 : Int32))] 2 = mkF m 0 #[.val (.ref t), .val (.int (2 : Int32))] [] := by first | (simp [entryFrame, mkF, argsToLocals, Value.category]; done) | rfl
theorem str_cf_2 (l : Launch) (Z : State) (a0 : Array Value) (hw : TW a0 Z) (ws : List Cond) (t : Addr) (k : ClassId) (vs : List Value) (h0 : Heap) (n0 : Nat) (Z0 : n0 ≤ h0.size) (V : Arv Z h0 t k .byte 2 vs (.int 0)) :
    own_MF l Z MN16 jdk_52_method_15_code 2 (some .byte) ws (own_R 0 0 0 0) #[(.ref t), (.int (2 : Int32))] h0 (Q_str_cf_2 Z t k vs h0 n0) := by
  have wd := @own_wd _ _ hw
  refine MetFree.of_bodySF (plainFor_of_name pn_java_lang_StringUTF16) hisR ?_
  intro p e s m args below meth c s₁ Bd hml0 hP hK
  obtain ⟨rfl, hZ, hh⟩ := hP
  have hx := Bd.exec
  have hby := Bd.bytes
  have hml : c.maxLocals = 2 := hml0
  have hown : s.vm.findClass "java/lang/StringUTF16" = some m.cls := findClass_of_methodNamed Bd.named
  have hnm := (name_of_methodNamed Bd.named Bd.method).1
  have X0 : Stand p l e (own_R 0 0 0 0) s m #[(.ref t), (.int (2 : Int32))] below meth c s₁ [] 0 0 := Stand.of_body Bd
  have e0 : s₁.heap = h0 := by rw [← hh, Bd.state]; rfl
  have N0 := Fr.nil n0
  refine go_of (A := s₁.setTop (entryFrame m #[(.ref t), (.int (2 : Int32))] 2)) (B := s₁.setTop (mkF m 0 #[.val (.ref t), .val (.int (2 : Int32))] [])) (fun _ kk' => castTop (ef_str_cf_2 m t) kk') ?_
  refine go_of (B := (s₁.setTop (mkF m 2 #[.val (.ref t), .val (.int (2 : Int32))] [(.ref t), (.int (2 : Int32))]))) (fun _ kk => XS.iloadN X0.here hx rfl (hb hby d18_0) rfl (XS.aloadN X0.here hx rfl (hb hby d18_1) rfl rfl kk)) ?_
  obtain ⟨cl1, Ar1, q1, Sz1, Nn1, Hh1, G1⟩ := id (V)
  have ln1 := len_of Sz1 Nn1
  refine go_of (B := (s₁.setTop (mkF m 3 #[.val (.ref t), .val (.int (2 : Int32))] [(.int (2 : Int32)), (.int (2 : Int32))]))) (fun _ kk => X0.arraylength hx (by rw [e0]; exact Ar1.1) (State.isArrayOf_alike hZ.alike Ar1.2.1) (g := (mkF m 2 #[.val (.ref t), .val (.int (2 : Int32))] [(.ref t), (.int (2 : Int32))])) rfl rfl (hb hby d18_2) _ (by rw [ln1]; exact kk)) ?_
  refine go_of (B := (s₁.setTop (mkF m 8 #[.val (.ref t), .val (.int (2 : Int32))] [(.int (0 : Int32))]))) (fun _ kk => XS.isub X0.here hx rfl (hb hby d18_3) rfl (XS.bipush X0.here hx rfl (hb hby d18_4) (XS.iushr X0.here hx rfl (hb hby d18_6) rfl (XS.i2b X0.here hx rfl (hb hby d18_7) rfl kk)))) ?_
  refine go_end X0 (v := some (.int (nar .byte (0 : Int32)))) (fun h => by rw [Bd.returns] at h; cases h) Bd.notSynchronized (by decide) (by decide) (Q := (Q_str_cf_2 Z t k vs h0 n0)) ?_ (fun fs hr => retN X0 hx (t := .byte) Bd.returns (by simp) (hb hby d18_8) hr)
  unfold Q_str_cf_2
  try rw [e0]
  exact ⟨rfl, N0, rfl⟩
def Q_u_cf_2 (Z : State) (t : Addr) (k : ClassId) (vs : List Value) (h0 : Heap) (n0 : Nat) (v : Option Value) (h : Heap) (L : List Loc) : Prop := v = some (.int 1) ∧ Fr n0 L ∧ h = h0
theorem ef_u_cf_2 (m : MethodId) (t : Addr)  : entryFrame m #[(.ref t), (.int (2 : Int32))] 2 = mkF m 0 #[.val (.ref t), .val (.int (2 : Int32))] [] := by first | (simp [entryFrame, mkF, argsToLocals, Value.category]; done) | rfl
theorem u_cf_2 (l : Launch) (Z : State) (a0 : Array Value) (hw : TW a0 Z) (ws : List Cond) (t : Addr) (k : ClassId) (vs : List Value) (h0 : Heap) (n0 : Nat) (Z0 : n0 ≤ h0.size) (V : Arv Z h0 t k .byte 4 vs (.int 0)) :
    own_MF l Z MN16 jdk_52_method_15_code 2 (some .byte) ws (own_R 0 0 0 0) #[(.ref t), (.int (2 : Int32))] h0 (Q_u_cf_2 Z t k vs h0 n0) := by
  have wd := @own_wd _ _ hw
  refine MetFree.of_bodySF (plainFor_of_name pn_java_lang_StringUTF16) hisR ?_
  intro p e s m args below meth c s₁ Bd hml0 hP hK
  obtain ⟨rfl, hZ, hh⟩ := hP
  have hx := Bd.exec
  have hby := Bd.bytes
  have hml : c.maxLocals = 2 := hml0
  have hown : s.vm.findClass "java/lang/StringUTF16" = some m.cls := findClass_of_methodNamed Bd.named
  have hnm := (name_of_methodNamed Bd.named Bd.method).1
  have X0 : Stand p l e (own_R 0 0 0 0) s m #[(.ref t), (.int (2 : Int32))] below meth c s₁ [] 0 0 := Stand.of_body Bd
  have e0 : s₁.heap = h0 := by rw [← hh, Bd.state]; rfl
  have N0 := Fr.nil n0
  refine go_of (A := s₁.setTop (entryFrame m #[(.ref t), (.int (2 : Int32))] 2)) (B := s₁.setTop (mkF m 0 #[.val (.ref t), .val (.int (2 : Int32))] [])) (fun _ kk' => castTop (ef_u_cf_2 m t) kk') ?_
  refine go_of (B := (s₁.setTop (mkF m 2 #[.val (.ref t), .val (.int (2 : Int32))] [(.ref t), (.int (2 : Int32))]))) (fun _ kk => XS.iloadN X0.here hx rfl (hb hby d18_0) rfl (XS.aloadN X0.here hx rfl (hb hby d18_1) rfl rfl kk)) ?_
  obtain ⟨cl1, Ar1, q1, Sz1, Nn1, Hh1, G1⟩ := id (V)
  have ln1 := len_of Sz1 Nn1
  refine go_of (B := (s₁.setTop (mkF m 3 #[.val (.ref t), .val (.int (2 : Int32))] [(.int (4 : Int32)), (.int (2 : Int32))]))) (fun _ kk => X0.arraylength hx (by rw [e0]; exact Ar1.1) (State.isArrayOf_alike hZ.alike Ar1.2.1) (g := (mkF m 2 #[.val (.ref t), .val (.int (2 : Int32))] [(.ref t), (.int (2 : Int32))])) rfl rfl (hb hby d18_2) _ (by rw [ln1]; exact kk)) ?_
  refine go_of (B := (s₁.setTop (mkF m 8 #[.val (.ref t), .val (.int (2 : Int32))] [(.int (1 : Int32))]))) (fun _ kk => XS.isub X0.here hx rfl (hb hby d18_3) rfl (XS.bipush X0.here hx rfl (hb hby d18_4) (XS.iushr X0.here hx rfl (hb hby d18_6) rfl (XS.i2b X0.here hx rfl (hb hby d18_7) rfl kk)))) ?_
  refine go_end X0 (v := some (.int (nar .byte (1 : Int32)))) (fun h => by rw [Bd.returns] at h; cases h) Bd.notSynchronized (by decide) (by decide) (Q := (Q_u_cf_2 Z t k vs h0 n0)) ?_ (fun fs hr => retN X0 hx (t := .byte) Bd.returns (by simp) (hb hby d18_8) hr)
  unfold Q_u_cf_2
  try rw [e0]
  exact ⟨rfl, N0, rfl⟩
def Q_u_i4_2 (Z : State) (a : Addr) (s' : Addr) (c0 : Int32) (c1 : Int32) (ks : ClassId) (gC : Int32) (u : Value) (u2 : Value) (h0 : Heap) (n0 : Nat) (v : Option Value) (h : Heap) (L : List Loc) : Prop := v = none ∧ Fr n0 L ∧ Keep h0 h [a] ∧ StrU Z h a 2 4 [c0, c1]
theorem ef_u_i4_2 (m : MethodId) (a : Addr) (s' : Addr)  : entryFrame m #[(.ref a), (.ref s'), (.int (0 : Int32)), (.int (2 : Int32)), .null] 6 = mkF m 0 #[.val (.ref a), .val (.ref s'), .val (.int (0 : Int32)), .val (.int (2 : Int32)), .val .null, .unset] [] := by first | (simp [entryFrame, mkF, argsToLocals, Value.category]; done) | rfl
theorem u_i4_2 (l : Launch) (Z : State) (a0 : Array Value) (hw : TW a0 Z) (ws : List Cond) (a : Addr) (s' : Addr) (c0 : Int32) (c1 : Int32) (ks : ClassId) (gC : Int32) (u : Value) (u2 : Value) (h0 : Heap) (n0 : Nat) (Z0 : n0 ≤ h0.size) (O : Old Z n0 h0) (SC : Sta Z Z.heap "java/lang/String" "COMPACT_STRINGS" "Z" (.int gC)) (hgC : ¬ gC = (0 : Int32)) (SU : US Z) (E : Exa Z h0 a "java/lang/String") (F : Fld Z h0 a "java/lang/String" "value" "[B" u) (F2 : Fld Z h0 a "java/lang/String" "coder" "B" u2) (g : n0 ≤ a) (Vs : Arv Z h0 s' ks .char 2 [(.int c0), (.int c1)] (.int 0)) (hc0 : ¬ c0 < 0 ∧ ¬ (65535 : Int32) < c0) (hc1 : ¬ c1 < 0 ∧ ¬ (65535 : Int32) < c1) :
    own_MF l Z MN6 jdk_42_method_149_code 6 none ws (own_R 4 2 6 57) #[(.ref a), (.ref s'), (.int (0 : Int32)), (.int (2 : Int32)), .null] h0 (Q_u_i4_2 Z a s' c0 c1 ks gC u u2 h0 n0) := by
  have wd := @own_wd _ _ hw
  refine MetFree.of_bodySF (plainFor_of_name pn_java_lang_String) hisR ?_
  intro p e s m args below meth c s₁ Bd hml0 hP hK
  obtain ⟨rfl, hZ, hh⟩ := hP
  have hx := Bd.exec
  have hby := Bd.bytes
  have hml : c.maxLocals = 6 := hml0
  have hown : s.vm.findClass "java/lang/String" = some m.cls := findClass_of_methodNamed Bd.named
  have hnm := (name_of_methodNamed Bd.named Bd.method).1
  have X0 : Stand p l e (own_R 4 2 6 57) s m #[(.ref a), (.ref s'), (.int (0 : Int32)), (.int (2 : Int32)), .null] below meth c s₁ [] 0 0 := Stand.of_body Bd
  have e0 : s₁.heap = h0 := by rw [← hh, Bd.state]; rfl
  have N0 := Fr.nil n0
  have lta := own_nlt (E.lt)
  have lts := own_nlt (Vs.lt)
  refine go_of (A := s₁.setTop (entryFrame m #[(.ref a), (.ref s'), (.int (0 : Int32)), (.int (2 : Int32)), .null] 6)) (B := s₁.setTop (mkF m 0 #[.val (.ref a), .val (.ref s'), .val (.int (0 : Int32)), .val (.int (2 : Int32)), .val .null, .unset] [])) (fun _ kk' => castTop (ef_u_i4_2 m a s') kk') ?_
  refine go_of (B := (s₁.setTop (mkF m 1 #[.val (.ref a), .val (.ref s'), .val (.int (0 : Int32)), .val (.int (2 : Int32)), .val .null, .unset] [(.ref a)]))) (fun _ kk => XS.aloadN X0.here hx rfl (hb hby d3_0) rfl rfl kk) ?_
  obtain ⟨T1, X1, e1, st1⟩ := initO X0 hx hZ hown (wd 17 rfl) (wd 18 rfl) (wd 19 rfl) e0 (g := (mkF m 1 #[.val (.ref a), .val (.ref s'), .val (.int (0 : Int32)), .val (.int (2 : Int32)), .val .null, .unset] [(.ref a)])) rfl (by rw [hml]; rfl) rfl (hb hby d3_1) (by decide) (W := 0) (Nat.le_of_eq rfl) (by decide)
  refine go_of (B := (T1.setTop (mkF m 4 #[.val (.ref a), .val (.ref s'), .val (.int (0 : Int32)), .val (.int (2 : Int32)), .val .null, .unset] []))) (st1) ?_
  refine go_of (B := (T1.setTop (mkF m 27 #[.val (.ref a), .val (.ref s'), .val (.int (0 : Int32)), .val (.int (2 : Int32)), .val .null, .unset] []))) (fun _ kk => XS.iloadN X1.here hx rfl (hb hby d3_4) rfl (XS.ifYes X1.here hx rfl (pc0 := 5) (pc' := 27) rfl (hb hby d3_5) rfl ((if0 _ _).trans (feq (by decide : ¬ ((2 : Int32) = (0 : Int32)))).2) (by decide) (by decide) kk)) ?_
  obtain ⟨T2, X2, e2, st2⟩ := getS2 X1 hx hZ hown (host := "") (Or.inl (wd 47 rfl)) Via.refl e1 (SC.ext O.2) (g := (mkF m 27 #[.val (.ref a), .val (.ref s'), .val (.int (0 : Int32)), .val (.int (2 : Int32)), .val .null, .unset] [])) rfl (hb hby d3_27)
  refine go_of (B := (T2.setTop (mkF m 30 #[.val (.ref a), .val (.ref s'), .val (.int (0 : Int32)), .val (.int (2 : Int32)), .val .null, .unset] [(.int gC)]))) (st2) ?_
  refine go_of (B := (T2.setTop (mkF m 36 #[.val (.ref a), .val (.ref s'), .val (.int (0 : Int32)), .val (.int (2 : Int32)), .val .null, .unset] [(.int (2 : Int32)), (.int (0 : Int32)), (.ref s')]))) (fun _ kk => XS.ifNo X2.here hx rfl (hb hby d3_30) rfl ((if0 _ _).trans (feq hgC).1) (XS.aloadN X2.here hx rfl (hb hby d3_33) rfl rfl (XS.iloadN X2.here hx rfl (hb hby d3_34) rfl (XS.iloadN X2.here hx rfl (hb hby d3_35) rfl kk)))) ?_
  obtain ⟨_, _, ⟨T3, L3, k3, n3⟩, -, X3, ⟨Lc3, hQ3, l3, y3, z3⟩, st3⟩ := Jvm.LawKit.callS X2 hx (y := MN17) hown (mvT hZ (wd 75 rfl)) (mvT hZ (wd 76 rfl)) (mvT hZ (wd 77 rfl)) (mvT hZ (wd 78 rfl)) (by decide) (backOf (W := 0) (u_c3_2 l Z a0 hw [] s' c0 c1 ks h0 n0 (by omega) O SU Vs hc0 hc1) hZ (wd 78 rfl) (wd 77 rfl) (by decide) (by decide)) (g := (mkF m 36 #[.val (.ref a), .val (.ref s'), .val (.int (0 : Int32)), .val (.int (2 : Int32)), .val .null, .unset] [(.int (2 : Int32)), (.int (0 : Int32)), (.ref s')])) rfl (by rw [hml]; rfl) (argsL := [(.ref s'), (.int (0 : Int32)), (.int (2 : Int32))]) (rest := []) (lenOf pd___CII__B rfl) rfl (Nat.le_of_eq rfl) (hb hby d3_36) (fun _ _ => ⟨rfl, e2, (by decide : 0 + 2 ≤ _), (by decide : 0 + 6 ≤ _)⟩)
  dsimp only [Pt.U, Pt.locs, Pt.cells, Pt.slots] at X3 l3 y3 z3 st3 hQ3
  subst l3 y3 z3
  obtain ⟨b3, k3, rfl, N3q, lo3, K3, H3⟩ := hQ3
  have lo3 := own_nle lo3
  have N3 := Fr.app N0 N3q
  have sz3 := K3.1
  refine go_of (B := (T3.setTop (mkF m 39 #[.val (.ref a), .val (.ref s'), .val (.int (0 : Int32)), .val (.int (2 : Int32)), .val .null, .unset] [(.ref b3)]))) (st3) ?_
  rcases H3 with ⟨hl0, hl1, V3⟩ | V3
  · have hi3 := own_nlt (V3.lt)
    refine go_of (B := (T3.setTop (mkF m 45 #[.val (.ref a), .val (.ref s'), .val (.int (0 : Int32)), .val (.int (2 : Int32)), .val .null, .val (.ref b3)] [(.int (2 : Int32)), (.ref b3), (.ref a)]))) (fun _ kk => XS.astore X3.here hx rfl (hb hby d3_39) rfl rfl rfl (XS.aloadN X3.here hx rfl (hb hby d3_41) rfl rfl (XS.aload X3.here hx rfl (hb hby d3_42) rfl rfl (XS.iloadN X3.here hx rfl (hb hby d3_44) rfl kk)))) ?_
    obtain ⟨_, _, ⟨T4, L4, k4, n4⟩, -, X4, ⟨Lc4, hQ4, l4, y4, z4⟩, st4⟩ := Jvm.LawKit.callS X3 hx (y := MN16) hown (mvT hZ (wd 82 rfl)) (mvT hZ (wd 83 rfl)) (mvT hZ (wd 77 rfl)) (mvT hZ (wd 84 rfl)) (by decide) (backOf (W := 1) (str_cf_2 l Z a0 hw [] b3 k3 _ T3.heap n0 (by omega) V3) hZ (wd 84 rfl) (wd 77 rfl) (by decide) (by decide)) (g := (mkF m 45 #[.val (.ref a), .val (.ref s'), .val (.int (0 : Int32)), .val (.int (2 : Int32)), .val .null, .val (.ref b3)] [(.int (2 : Int32)), (.ref b3), (.ref a)])) rfl (by rw [hml]; rfl) (argsL := [(.ref b3), (.int (2 : Int32))]) (rest := [(.ref a)]) (lenOf pd___BI_B rfl) rfl (Nat.le_of_eq rfl) (hb hby d3_45) (fun _ _ => ⟨rfl, rfl, (by decide : 2 + 0 ≤ _), (by decide : 6 + 0 ≤ _)⟩)
    dsimp only [Pt.U, Pt.locs, Pt.cells, Pt.slots] at X4 l4 y4 z4 st4 hQ4
    subst l4 y4 z4
    obtain ⟨rfl, N4q, e4⟩ := hQ4
    have N4 := Fr.app N3 N4q
    refine go_of (B := (T4.setTop (mkF m 48 #[.val (.ref a), .val (.ref s'), .val (.int (0 : Int32)), .val (.int (2 : Int32)), .val .null, .val (.ref b3)] [(.int (0 : Int32)), (.ref a)]))) (st4) ?_
    have cf_5 := (E.keep K3)
    have cf_6 := (F2.keep K3 nin0)
    obtain ⟨T7, h7, X7, e7, W7, st7⟩ := putFN X4 hx hZ hown (wd 27 rfl) Via.refl e4 cf_6 cf_5 (Or.inr ⟨(wd 23 rfl), rfl, hnm⟩) (wd 8 rfl) (ty := .byte) (v' := (.int (nar .byte (0 : Int32)))) (by decide) rfl (fits_nar_byte _) (g := (mkF m 48 #[.val (.ref a), .val (.ref s'), .val (.int (0 : Int32)), .val (.int (2 : Int32)), .val .null, .val (.ref b3)] [(.int (0 : Int32)), (.ref a)])) rfl rfl (hb hby d3_48)
    have sz7 := W7.size
    have Fw7 := cf_6.same W7
    have N7 := Fr.snoc X7 N4 (g : n0 ≤ a)
    refine go_of (B := (T7.setTop (mkF m 51 #[.val (.ref a), .val (.ref s'), .val (.int (0 : Int32)), .val (.int (2 : Int32)), .val .null, .val (.ref b3)] []))) (st7) ?_
    refine go_of (B := (T7.setTop (mkF m 54 #[.val (.ref a), .val (.ref s'), .val (.int (0 : Int32)), .val (.int (2 : Int32)), .val .null, .val (.ref b3)] [(.ref b3), (.ref a)]))) (fun _ kk => XS.aloadN X7.here hx rfl (hb hby d3_51) rfl rfl (XS.aload X7.here hx rfl (hb hby d3_52) rfl rfl kk)) ?_
    have cf_8 := (cf_5.wr W7)
    have cf_9 := ((F.keep K3 nin0).other W7 (Or.inr (slot_ne (Or.inr (wd 22 rfl)) (Or.inr (wd 23 rfl)) (by decide) (t := (.array .byte)) (t' := .byte) (by decide) (by decide))))
    obtain ⟨T10, h10, X10, e10, W10, st10⟩ := putF X7 hx hZ hown (host := "") (Or.inl (wd 26 rfl)) Via.refl e7 cf_9 cf_8 (Or.inr ⟨(wd 22 rfl), rfl, hnm⟩) (wd 8 rfl) (ty := (.array .byte)) (by decide) rfl rfl (g := (mkF m 54 #[.val (.ref a), .val (.ref s'), .val (.int (0 : Int32)), .val (.int (2 : Int32)), .val .null, .val (.ref b3)] [(.ref b3), (.ref a)])) rfl rfl (hb hby d3_54)
    have sz10 := W10.size
    have Fw10 := cf_9.same W10
    have N10 := Fr.snoc X10 N7 (g : n0 ≤ a)
    refine go_of (B := (T10.setTop (mkF m 57 #[.val (.ref a), .val (.ref s'), .val (.int (0 : Int32)), .val (.int (2 : Int32)), .val .null, .val (.ref b3)] []))) (st10) ?_
    have cf_11 := ((V3.other W7 (by first | omega | exact own_ne (by omega) | exact own_le (by omega))).other W10 (by first | omega | exact own_ne (by omega) | exact own_le (by omega)))
    have cf_12 := (Fw7.other W10 (Or.inr (slot_ne (Or.inr (wd 23 rfl)) (Or.inr (wd 22 rfl)) (by decide) (t := .byte) (t' := (.array .byte)) (by decide) (by decide))))
    have cf_13 := (cf_8.wr W10)
    refine go_end X10 (v := none) (fun _ => rfl) Bd.notSynchronized (by decide) (by decide) (Q := (Q_u_i4_2 Z a s' c0 c1 ks gC u u2 h0 n0)) ?_ (fun fs hr => X10.returnOut hx Bd.returns (hb hby d3_57) hr)
    unfold Q_u_i4_2
    try rw [e10]
    exact ⟨rfl, N10, ((((Keep.refl h0 [a]).trans K3 all0).wr W7 (Or.inl (List.mem_of_getElem? (i := 0) rfl))).wr W10 (Or.inl (List.mem_of_getElem? (i := 0) rfl))), Or.inl ⟨b3, k3, cf_13, cf_12, Fw10, cf_11, (own_allc ⟨hc0.1, hl0⟩ (own_allc ⟨hc1.1, hl1⟩ (fun _ q => nomatch q)))⟩⟩
  · have hi3 := own_nlt (V3.lt)
    refine go_of (B := (T3.setTop (mkF m 45 #[.val (.ref a), .val (.ref s'), .val (.int (0 : Int32)), .val (.int (2 : Int32)), .val .null, .val (.ref b3)] [(.int (2 : Int32)), (.ref b3), (.ref a)]))) (fun _ kk => XS.astore X3.here hx rfl (hb hby d3_39) rfl rfl rfl (XS.aloadN X3.here hx rfl (hb hby d3_41) rfl rfl (XS.aload X3.here hx rfl (hb hby d3_42) rfl rfl (XS.iloadN X3.here hx rfl (hb hby d3_44) rfl kk)))) ?_
    obtain ⟨_, _, ⟨T14, L14, k14, n14⟩, -, X14, ⟨Lc14, hQ14, l14, y14, z14⟩, st14⟩ := Jvm.LawKit.callS X3 hx (y := MN16) hown (mvT hZ (wd 82 rfl)) (mvT hZ (wd 83 rfl)) (mvT hZ (wd 77 rfl)) (mvT hZ (wd 84 rfl)) (by decide) (backOf (W := 1) (u_cf_2 l Z a0 hw [] b3 k3 _ T3.heap n0 (by omega) V3) hZ (wd 84 rfl) (wd 77 rfl) (by decide) (by decide)) (g := (mkF m 45 #[.val (.ref a), .val (.ref s'), .val (.int (0 : Int32)), .val (.int (2 : Int32)), .val .null, .val (.ref b3)] [(.int (2 : Int32)), (.ref b3), (.ref a)])) rfl (by rw [hml]; rfl) (argsL := [(.ref b3), (.int (2 : Int32))]) (rest := [(.ref a)]) (lenOf pd___BI_B rfl) rfl (Nat.le_of_eq rfl) (hb hby d3_45) (fun _ _ => ⟨rfl, rfl, (by decide : 2 + 0 ≤ _), (by decide : 6 + 0 ≤ _)⟩)
    dsimp only [Pt.U, Pt.locs, Pt.cells, Pt.slots] at X14 l14 y14 z14 st14 hQ14
    subst l14 y14 z14
    obtain ⟨rfl, N14q, e14⟩ := hQ14
    have N14 := Fr.app N3 N14q
    refine go_of (B := (T14.setTop (mkF m 48 #[.val (.ref a), .val (.ref s'), .val (.int (0 : Int32)), .val (.int (2 : Int32)), .val .null, .val (.ref b3)] [(.int (1 : Int32)), (.ref a)]))) (st14) ?_
    have cf_15 := (E.keep K3)
    have cf_16 := (F2.keep K3 nin0)
    obtain ⟨T17, h17, X17, e17, W17, st17⟩ := putFN X14 hx hZ hown (wd 27 rfl) Via.refl e14 cf_16 cf_15 (Or.inr ⟨(wd 23 rfl), rfl, hnm⟩) (wd 8 rfl) (ty := .byte) (v' := (.int (nar .byte (1 : Int32)))) (by decide) rfl (fits_nar_byte _) (g := (mkF m 48 #[.val (.ref a), .val (.ref s'), .val (.int (0 : Int32)), .val (.int (2 : Int32)), .val .null, .val (.ref b3)] [(.int (1 : Int32)), (.ref a)])) rfl rfl (hb hby d3_48)
    have sz17 := W17.size
    have Fw17 := cf_16.same W17
    have N17 := Fr.snoc X17 N14 (g : n0 ≤ a)
    refine go_of (B := (T17.setTop (mkF m 51 #[.val (.ref a), .val (.ref s'), .val (.int (0 : Int32)), .val (.int (2 : Int32)), .val .null, .val (.ref b3)] []))) (st17) ?_
    refine go_of (B := (T17.setTop (mkF m 54 #[.val (.ref a), .val (.ref s'), .val (.int (0 : Int32)), .val (.int (2 : Int32)), .val .null, .val (.ref b3)] [(.ref b3), (.ref a)]))) (fun _ kk => XS.aloadN X17.here hx rfl (hb hby d3_51) rfl rfl (XS.aload X17.here hx rfl (hb hby d3_52) rfl rfl kk)) ?_
    have cf_18 := (cf_15.wr W17)
    have cf_19 := ((F.keep K3 nin0).other W17 (Or.inr (slot_ne (Or.inr (wd 22 rfl)) (Or.inr (wd 23 rfl)) (by decide) (t := (.array .byte)) (t' := .byte) (by decide) (by decide))))
    obtain ⟨T20, h20, X20, e20, W20, st20⟩ := putF X17 hx hZ hown (host := "") (Or.inl (wd 26 rfl)) Via.refl e17 cf_19 cf_18 (Or.inr ⟨(wd 22 rfl), rfl, hnm⟩) (wd 8 rfl) (ty := (.array .byte)) (by decide) rfl rfl (g := (mkF m 54 #[.val (.ref a), .val (.ref s'), .val (.int (0 : Int32)), .val (.int (2 : Int32)), .val .null, .val (.ref b3)] [(.ref b3), (.ref a)])) rfl rfl (hb hby d3_54)
    have sz20 := W20.size
    have Fw20 := cf_19.same W20
    have N20 := Fr.snoc X20 N17 (g : n0 ≤ a)
    refine go_of (B := (T20.setTop (mkF m 57 #[.val (.ref a), .val (.ref s'), .val (.int (0 : Int32)), .val (.int (2 : Int32)), .val .null, .val (.ref b3)] []))) (st20) ?_
    have cf_21 := ((V3.other W17 (by first | omega | exact own_ne (by omega) | exact own_le (by omega))).other W20 (by first | omega | exact own_ne (by omega) | exact own_le (by omega)))
    have cf_22 := (Fw17.other W20 (Or.inr (slot_ne (Or.inr (wd 23 rfl)) (Or.inr (wd 22 rfl)) (by decide) (t := .byte) (t' := (.array .byte)) (by decide) (by decide))))
    have cf_23 := (cf_18.wr W20)
    refine go_end X20 (v := none) (fun _ => rfl) Bd.notSynchronized (by decide) (by decide) (Q := (Q_u_i4_2 Z a s' c0 c1 ks gC u u2 h0 n0)) ?_ (fun fs hr => X20.returnOut hx Bd.returns (hb hby d3_57) hr)
    unfold Q_u_i4_2
    try rw [e20]
    exact ⟨rfl, N20, ((((Keep.refl h0 [a]).trans K3 all0).wr W17 (Or.inl (List.mem_of_getElem? (i := 0) rfl))).wr W20 (Or.inl (List.mem_of_getElem? (i := 0) rfl))), Or.inr ⟨b3, k3, cf_23, cf_22, Fw20, cf_21, (own_allc hc0 (own_allc hc1 (fun _ q => nomatch q)))⟩⟩
def Q_u_i1_2 (Z : State) (a : Addr) (s' : Addr) (c0 : Int32) (c1 : Int32) (ks : ClassId) (gC : Int32) (u : Value) (u2 : Value) (h0 : Heap) (n0 : Nat) (v : Option Value) (h : Heap) (L : List Loc) : Prop := v = none ∧ Fr n0 L ∧ Keep h0 h [a] ∧ StrU Z h a 2 4 [c0, c1]
theorem ef_u_i1_2 (m : MethodId) (a : Addr) (s' : Addr)  : entryFrame m #[(.ref a), (.ref s')] 2 = mkF m 0 #[.val (.ref a), .val (.ref s')] [] := by first | (simp [entryFrame, mkF, argsToLocals, Value.category]; done) | rfl
theorem u_i1_2 (l : Launch) (Z : State) (a0 : Array Value) (hw : TW a0 Z) (ws : List Cond) (a : Addr) (s' : Addr) (c0 : Int32) (c1 : Int32) (ks : ClassId) (gC : Int32) (u : Value) (u2 : Value) (h0 : Heap) (n0 : Nat) (Z0 : n0 ≤ h0.size) (O : Old Z n0 h0) (SC : Sta Z Z.heap "java/lang/String" "COMPACT_STRINGS" "Z" (.int gC)) (hgC : ¬ gC = (0 : Int32)) (SU : US Z) (E : Exa Z h0 a "java/lang/String") (F : Fld Z h0 a "java/lang/String" "value" "[B" u) (F2 : Fld Z h0 a "java/lang/String" "coder" "B" u2) (g : n0 ≤ a) (Vs : Arv Z h0 s' ks .char 2 [(.int c0), (.int c1)] (.int 0)) (hc0 : ¬ c0 < 0 ∧ ¬ (65535 : Int32) < c0) (hc1 : ¬ c1 < 0 ∧ ¬ (65535 : Int32) < c1) :
    own_MF l Z MN5 jdk_42_method_3_code 2 none ws (own_R 5 2 6 74) #[(.ref a), (.ref s')] h0 (Q_u_i1_2 Z a s' c0 c1 ks gC u u2 h0 n0) := by
  have wd := @own_wd _ _ hw
  refine MetFree.of_bodySF (plainFor_of_name pn_java_lang_String) hisR ?_
  intro p e s m args below meth c s₁ Bd hml0 hP hK
  obtain ⟨rfl, hZ, hh⟩ := hP
  have hx := Bd.exec
  have hby := Bd.bytes
  have hml : c.maxLocals = 2 := hml0
  have hown : s.vm.findClass "java/lang/String" = some m.cls := findClass_of_methodNamed Bd.named
  have hnm := (name_of_methodNamed Bd.named Bd.method).1
  have X0 : Stand p l e (own_R 5 2 6 74) s m #[(.ref a), (.ref s')] below meth c s₁ [] 0 0 := Stand.of_body Bd
  have e0 : s₁.heap = h0 := by rw [← hh, Bd.state]; rfl
  have N0 := Fr.nil n0
  have lta := own_nlt (E.lt)
  have lts := own_nlt (Vs.lt)
  refine go_of (A := s₁.setTop (entryFrame m #[(.ref a), (.ref s')] 2)) (B := s₁.setTop (mkF m 0 #[.val (.ref a), .val (.ref s')] [])) (fun _ kk' => castTop (ef_u_i1_2 m a s') kk') ?_
  refine go_of (B := (s₁.setTop (mkF m 4 #[.val (.ref a), .val (.ref s')] [(.ref s'), (.int (0 : Int32)), (.ref s'), (.ref a)]))) (fun _ kk => XS.aloadN X0.here hx rfl (hb hby d2_0) rfl rfl (XS.aloadN X0.here hx rfl (hb hby d2_1) rfl rfl (XS.iconst X0.here hx rfl (hb hby d2_2) (XS.aloadN X0.here hx rfl (hb hby d2_3) rfl rfl kk)))) ?_
  obtain ⟨cl1, Ar1, q1, Sz1, Nn1, Hh1, G1⟩ := id (Vs)
  have ln1 := len_of Sz1 Nn1
  refine go_of (B := (s₁.setTop (mkF m 5 #[.val (.ref a), .val (.ref s')] [(.int (2 : Int32)), (.int (0 : Int32)), (.ref s'), (.ref a)]))) (fun _ kk => X0.arraylength hx (by rw [e0]; exact Ar1.1) (State.isArrayOf_alike hZ.alike Ar1.2.1) (g := (mkF m 4 #[.val (.ref a), .val (.ref s')] [(.ref s'), (.int (0 : Int32)), (.ref s'), (.ref a)])) rfl rfl (hb hby d2_4) _ (by rw [ln1]; exact kk)) ?_
  refine go_of (B := (s₁.setTop (mkF m 6 #[.val (.ref a), .val (.ref s')] [.null, (.int (2 : Int32)), (.int (0 : Int32)), (.ref s'), (.ref a)]))) (fun _ kk => XS.aconstNull X0.here hx rfl (hb hby d2_5) kk) ?_
  obtain ⟨_, _, ⟨T2, L2, k2, n2⟩, -, X2, ⟨Lc2, hQ2, l2, y2, z2⟩, st2⟩ := X0.specialBack hx (y := MN6) rfl hown (mvT hZ (wd 13 rfl)) (mvT hZ (wd 14 rfl)) (mvT hZ (wd 16 rfl)) (by decide) (backOf (W := 0) (u_i4_2 l Z a0 hw [] a s' c0 c1 ks gC u u2 h0 n0 (by omega) O SC hgC SU E F F2 g Vs hc0 hc1) hZ (wd 16 rfl) (wd 9 rfl) (by decide) (by decide)) (g := (mkF m 6 #[.val (.ref a), .val (.ref s')] [.null, (.int (2 : Int32)), (.int (0 : Int32)), (.ref s'), (.ref a)])) rfl (by rw [hml]; rfl) (Steps.refl _) (a := a) (argsL := [(.ref s'), (.int (0 : Int32)), (.int (2 : Int32)), .null]) (rest := []) (lenOf pd___CIILjava_lang_Void__V rfl) rfl (Nat.le_of_eq rfl) (hb hby d2_6) (fun _ _ => ⟨rfl, e0, (by decide : 0 + 2 ≤ _), (by decide : 0 + 6 ≤ _)⟩)
  dsimp only [Pt.U, Pt.locs, Pt.cells, Pt.slots] at X2 l2 y2 z2 st2 hQ2
  subst l2 y2 z2
  obtain ⟨rfl, N2q, K2, S2⟩ := hQ2
  have N2 := Fr.app N0 N2q
  have sz2 := K2.1
  refine go_tr (B := (T2.setTop (mkF m 9 #[.val (.ref a), .val (.ref s')] []))) (st2) ?_
  refine go_end X2 (v := none) (fun _ => rfl) Bd.notSynchronized (by decide) (by decide) (Q := (Q_u_i1_2 Z a s' c0 c1 ks gC u u2 h0 n0)) ?_ (fun fs hr => X2.returnOut hx Bd.returns (hb hby d2_9) hr)
  unfold Q_u_i1_2
  exact ⟨rfl, N2, ((Keep.refl h0 [a]).trans K2 (allS (Or.inl (List.mem_of_getElem? (i := 0) rfl)) all0)), S2⟩
def Q_u_c5_3 (Z : State) (s' : Addr) (d : Addr) (c0 : Int32) (c1 : Int32) (c2 : Int32) (ks : ClassId) (kd : ClassId) (h0 : Heap) (n0 : Nat) (v : Option Value) (h : Heap) (L : List Loc) : Prop := ∃ r : Int32, v = some (.int r) ∧ Fr n0 L ∧ Keep h0 h [d] ∧ ((r = 3 ∧ ¬ (255 : Int32) < c0 ∧ ¬ (255 : Int32) < c1 ∧ ¬ (255 : Int32) < c2 ∧ Arv Z h d kd .byte 3 [(.int (own_b8 c0)), (.int (own_b8 c1)), (.int (own_b8 c2))] (.int 0)) ∨ (r = 0 ∧ (255 : Int32) < c0) ∨ (r = 1 ∧ (255 : Int32) < c1) ∨ (r = 2 ∧ (255 : Int32) < c2))
theorem ef_u_c5_3 (m : MethodId) (s' : Addr) (d : Addr)  : entryFrame m #[(.ref s'), (.int (0 : Int32)), (.ref d), (.int (0 : Int32)), (.int (3 : Int32))] 7 = mkF m 0 #[.val (.ref s'), .val (.int (0 : Int32)), .val (.ref d), .val (.int (0 : Int32)), .val (.int (3 : Int32)), .unset, .unset] [] := by first | (simp [entryFrame, mkF, argsToLocals, Value.category]; done) | rfl
theorem u_c5_3 (l : Launch) (Z : State) (a0 : Array Value) (hw : TW a0 Z) (ws : List Cond) (s' : Addr) (d : Addr) (c0 : Int32) (c1 : Int32) (c2 : Int32) (ks : ClassId) (kd : ClassId) (h0 : Heap) (n0 : Nat) (Z0 : n0 ≤ h0.size) (Vs : Arv Z h0 s' ks .char 3 [(.int c0), (.int c1), (.int c2)] (.int 0)) (Vd : Arv Z h0 d kd .byte 3 [(.int 0), (.int 0), (.int 0)] (.int 0)) (nsd : s' ≠ d) (g : n0 ≤ d) :
    own_MF l Z MN18 jdk_52_method_21_code 7 (some .int) ws (own_R 0 0 0 0) #[(.ref s'), (.int (0 : Int32)), (.ref d), (.int (0 : Int32)), (.int (3 : Int32))] h0 (Q_u_c5_3 Z s' d c0 c1 c2 ks kd h0 n0) := by
  have wd := @own_wd _ _ hw
  refine MetFree.of_bodySF (plainFor_of_name pn_java_lang_StringUTF16) hisR ?_
  intro p e s m args below meth c s₁ Bd hml0 hP hK
  obtain ⟨rfl, hZ, hh⟩ := hP
  have hx := Bd.exec
  have hby := Bd.bytes
  have hml : c.maxLocals = 7 := hml0
  have hown : s.vm.findClass "java/lang/StringUTF16" = some m.cls := findClass_of_methodNamed Bd.named
  have hnm := (name_of_methodNamed Bd.named Bd.method).1
  have X0 : Stand p l e (own_R 0 0 0 0) s m #[(.ref s'), (.int (0 : Int32)), (.ref d), (.int (0 : Int32)), (.int (3 : Int32))] below meth c s₁ [] 0 0 := Stand.of_body Bd
  have e0 : s₁.heap = h0 := by rw [← hh, Bd.state]; rfl
  have N0 := Fr.nil n0
  have lts := own_nlt (Vs.lt)
  have ltd := own_nlt (Vd.lt)
  refine go_of (A := s₁.setTop (entryFrame m #[(.ref s'), (.int (0 : Int32)), (.ref d), (.int (0 : Int32)), (.int (3 : Int32))] 7)) (B := s₁.setTop (mkF m 0 #[.val (.ref s'), .val (.int (0 : Int32)), .val (.ref d), .val (.int (0 : Int32)), .val (.int (3 : Int32)), .unset, .unset] [])) (fun _ kk' => castTop (ef_u_c5_3 m s' d) kk') ?_
  refine go_of (B := (s₁.setTop (mkF m 11 #[.val (.ref s'), .val (.int (0 : Int32)), .val (.ref d), .val (.int (0 : Int32)), .val (.int (3 : Int32)), .val (.int (0 : Int32)), .unset] [(.ref s')]))) (fun _ kk => XS.iconst X0.here hx rfl (hb hby d17_0) (XS.istore X0.here hx rfl (hb hby d17_1) rfl rfl (XS.iload X0.here hx rfl (hb hby d17_3) rfl (XS.iload X0.here hx rfl (hb hby d17_5) rfl (XS.icmpNo X0.here hx rfl (hb hby d17_7) rfl (tlt (by decide : (0 : Int32) < (3 : Int32))).2.1 (XS.aloadN X0.here hx rfl (hb hby d17_10) rfl rfl kk)))))) ?_
  refine go_of (B := (s₁.setTop (mkF m 12 #[.val (.ref s'), .val (.int (0 : Int32)), .val (.ref d), .val (.int (0 : Int32)), .val (.int (3 : Int32)), .val (.int (0 : Int32)), .unset] [(.int (0 : Int32)), (.ref s')]))) (fun _ kk => XS.iloadN X0.here hx rfl (hb hby d17_11) rfl kk) ?_
  obtain ⟨cl1, Ar1, q1, Sz1, Nn1, Hh1, G1⟩ := id (Vs)
  refine go_of (B := (s₁.setTop (mkF m 20 #[.val (.ref s'), .val (.int (0 : Int32)), .val (.ref d), .val (.int (0 : Int32)), .val (.int (3 : Int32)), .val (.int (0 : Int32)), .val (.int c0)] [(.int (255 : Int32)), (.int c0)]))) (fun _ kk => X0.caload hx (j := (0 : Int32)) (v := (.int c0)) (by rw [e0]; exact Ar1.1) (State.isArrayOf_alike hZ.alike Ar1.2.1) Ar1.2.2 (inb_of Sz1 ⟨by decide, by decide⟩) (Hh1.at (inb_of Sz1 ⟨by decide, by decide⟩) rfl) (g := (mkF m 12 #[.val (.ref s'), .val (.int (0 : Int32)), .val (.ref d), .val (.int (0 : Int32)), .val (.int (3 : Int32)), .val (.int (0 : Int32)), .unset] [(.int (0 : Int32)), (.ref s')])) rfl rfl (hb hby d17_12) _ (XS.istore X0.here hx rfl (hb hby d17_13) rfl rfl (XS.iload X0.here hx rfl (hb hby d17_15) rfl (XS.sipush X0.here hx rfl (hb hby d17_17) kk)))) ?_
  by_cases hcc2 : (255 : Int32) < c0
  · refine go_of (B := (s₁.setTop (mkF m 25 #[.val (.ref s'), .val (.int (0 : Int32)), .val (.ref d), .val (.int (0 : Int32)), .val (.int (3 : Int32)), .val (.int (0 : Int32)), .val (.int c0)] [(.int (0 : Int32))]))) (fun _ kk => XS.icmpNo X0.here hx rfl (hb hby d17_20) rfl (tlt hcc2).2.2.2 (XS.iload X0.here hx rfl (hb hby d17_23) rfl kk)) ?_
    refine go_end X0 (v := some (.int (0 : Int32))) (fun h => by rw [Bd.returns] at h; cases h) Bd.notSynchronized (by decide) (by decide) (Q := (Q_u_c5_3 Z s' d c0 c1 c2 ks kd h0 n0)) ?_ (fun fs hr => own_retI X0 hx Bd.returns (hb hby d17_25) hr)
    unfold Q_u_c5_3
    try rw [e0]
    exact ⟨_, rfl, N0, (Keep.refl h0 [d]), Or.inr (Or.inl ⟨rfl, hcc2⟩)⟩
  · refine go_of (B := (s₁.setTop (mkF m 31 #[.val (.ref s'), .val (.int (0 : Int32)), .val (.ref d), .val (.int (0 : Int32)), .val (.int (3 : Int32)), .val (.int (0 : Int32)), .val (.int c0)] [(.int (c0.toInt8.toInt32)), (.int (0 : Int32)), (.ref d)]))) (fun _ kk => XS.icmpYes X0.here hx rfl (pc0 := 20) (pc' := 26) rfl (hb hby d17_20) rfl (flt hcc2).2.2.2 (by decide) (by decide) (XS.aloadN X0.here hx rfl (hb hby d17_26) rfl rfl (XS.iloadN X0.here hx rfl (hb hby d17_27) rfl (XS.iload X0.here hx rfl (hb hby d17_28) rfl (XS.i2b X0.here hx rfl (hb hby d17_30) rfl kk))))) ?_
    obtain ⟨cl3, Ar3, q3, Sz3, Nn3, Hh3, G3⟩ := id (Vd)
    obtain ⟨T4, h4, X4, e4, W4, st4⟩ := stB X0 hx hZ e0 Ar3 (j := (0 : Int32)) (inb_of Sz3 ⟨by decide, by decide⟩) (g := (mkF m 31 #[.val (.ref s'), .val (.int (0 : Int32)), .val (.ref d), .val (.int (0 : Int32)), .val (.int (3 : Int32)), .val (.int (0 : Int32)), .val (.int c0)] [(.int (c0.toInt8.toInt32)), (.int (0 : Int32)), (.ref d)])) rfl rfl (hb hby d17_31)
    have sz4 := W4.size
    have N4 := Fr.snoc X4 N0 (g : n0 ≤ d)
    have V4 : Arv Z h4 d kd .byte (3 : Int32) [(.int ((c0.toInt8.toInt32).toInt8.toInt32)), (.int (0 : Int32)), (.int (0 : Int32))] (.int (0 : Int32)) := Arv.set Ar3 q3 Sz3 Nn3 Hh3 G3 (fits_nar_byte _) W4 0 rfl (Nat.le_of_ble_eq_true rfl)
    rw [own_bb] at V4
    refine go_of (B := (T4.setTop (mkF m 32 #[.val (.ref s'), .val (.int (0 : Int32)), .val (.ref d), .val (.int (0 : Int32)), .val (.int (3 : Int32)), .val (.int (0 : Int32)), .val (.int c0)] []))) (st4) ?_
    refine go_of (B := (T4.setTop (mkF m 7 #[.val (.ref s'), .val (.int (1 : Int32)), .val (.ref d), .val (.int (1 : Int32)), .val (.int (3 : Int32)), .val (.int (1 : Int32)), .val (.int c0)] [(.int (3 : Int32)), (.int (1 : Int32))]))) (fun _ kk => XS.iinc X4.here hx rfl (hb hby d17_32) rfl rfl (XS.iinc X4.here hx rfl (hb hby d17_35) rfl rfl (XS.iinc X4.here hx rfl (hb hby d17_38) rfl rfl (XS.goto X4.here hx rfl (pc0 := 41) (pc' := 3) rfl (hb hby d17_41) (by decide) (by decide) (XS.iload X4.here hx rfl (hb hby d17_3) rfl (XS.iload X4.here hx rfl (hb hby d17_5) rfl kk)))))) ?_
    refine go_of (B := (T4.setTop (mkF m 12 #[.val (.ref s'), .val (.int (1 : Int32)), .val (.ref d), .val (.int (1 : Int32)), .val (.int (3 : Int32)), .val (.int (1 : Int32)), .val (.int c0)] [(.int (1 : Int32)), (.ref s')]))) (fun _ kk => XS.icmpNo X4.here hx rfl (hb hby d17_7) rfl (tlt (by decide : (1 : Int32) < (3 : Int32))).2.1 (XS.aloadN X4.here hx rfl (hb hby d17_10) rfl rfl (XS.iloadN X4.here hx rfl (hb hby d17_11) rfl kk))) ?_
    have cf_5 := (Vs.other W4 (by first | omega | exact own_ne (by omega) | exact own_le (by omega)))
    obtain ⟨cl6, Ar6, q6, Sz6, Nn6, Hh6, G6⟩ := id (cf_5)
    refine go_of (B := (T4.setTop (mkF m 20 #[.val (.ref s'), .val (.int (1 : Int32)), .val (.ref d), .val (.int (1 : Int32)), .val (.int (3 : Int32)), .val (.int (1 : Int32)), .val (.int c1)] [(.int (255 : Int32)), (.int c1)]))) (fun _ kk => X4.caload hx (j := (1 : Int32)) (v := (.int c1)) (by rw [e4]; exact Ar6.1) (State.isArrayOf_alike hZ.alike Ar6.2.1) Ar6.2.2 (inb_of Sz6 ⟨by decide, by decide⟩) (Hh6.at (inb_of Sz6 ⟨by decide, by decide⟩) rfl) (g := (mkF m 12 #[.val (.ref s'), .val (.int (1 : Int32)), .val (.ref d), .val (.int (1 : Int32)), .val (.int (3 : Int32)), .val (.int (1 : Int32)), .val (.int c0)] [(.int (1 : Int32)), (.ref s')])) rfl rfl (hb hby d17_12) _ (XS.istore X4.here hx rfl (hb hby d17_13) rfl rfl (XS.iload X4.here hx rfl (hb hby d17_15) rfl (XS.sipush X4.here hx rfl (hb hby d17_17) kk)))) ?_
    by_cases hcc7 : (255 : Int32) < c1
    · refine go_of (B := (T4.setTop (mkF m 25 #[.val (.ref s'), .val (.int (1 : Int32)), .val (.ref d), .val (.int (1 : Int32)), .val (.int (3 : Int32)), .val (.int (1 : Int32)), .val (.int c1)] [(.int (1 : Int32))]))) (fun _ kk => XS.icmpNo X4.here hx rfl (hb hby d17_20) rfl (tlt hcc7).2.2.2 (XS.iload X4.here hx rfl (hb hby d17_23) rfl kk)) ?_
      refine go_end X4 (v := some (.int (1 : Int32))) (fun h => by rw [Bd.returns] at h; cases h) Bd.notSynchronized (by decide) (by decide) (Q := (Q_u_c5_3 Z s' d c0 c1 c2 ks kd h0 n0)) ?_ (fun fs hr => own_retI X4 hx Bd.returns (hb hby d17_25) hr)
      unfold Q_u_c5_3
      try rw [e4]
      exact ⟨_, rfl, N4, ((Keep.refl h0 [d]).wr W4 (Or.inl (List.mem_of_getElem? (i := 0) rfl))), Or.inr (Or.inr (Or.inl ⟨rfl, hcc7⟩))⟩
    · refine go_of (B := (T4.setTop (mkF m 31 #[.val (.ref s'), .val (.int (1 : Int32)), .val (.ref d), .val (.int (1 : Int32)), .val (.int (3 : Int32)), .val (.int (1 : Int32)), .val (.int c1)] [(.int (c1.toInt8.toInt32)), (.int (1 : Int32)), (.ref d)]))) (fun _ kk => XS.icmpYes X4.here hx rfl (pc0 := 20) (pc' := 26) rfl (hb hby d17_20) rfl (flt hcc7).2.2.2 (by decide) (by decide) (XS.aloadN X4.here hx rfl (hb hby d17_26) rfl rfl (XS.iloadN X4.here hx rfl (hb hby d17_27) rfl (XS.iload X4.here hx rfl (hb hby d17_28) rfl (XS.i2b X4.here hx rfl (hb hby d17_30) rfl kk))))) ?_
      obtain ⟨cl8, Ar8, q8, Sz8, Nn8, Hh8, G8⟩ := id (V4)
      obtain ⟨T9, h9, X9, e9, W9, st9⟩ := stB X4 hx hZ e4 Ar8 (j := (1 : Int32)) (inb_of Sz8 ⟨by decide, by decide⟩) (g := (mkF m 31 #[.val (.ref s'), .val (.int (1 : Int32)), .val (.ref d), .val (.int (1 : Int32)), .val (.int (3 : Int32)), .val (.int (1 : Int32)), .val (.int c1)] [(.int (c1.toInt8.toInt32)), (.int (1 : Int32)), (.ref d)])) rfl rfl (hb hby d17_31)
      have sz9 := W9.size
      have N9 := Fr.snoc X9 N4 (g : n0 ≤ d)
      have V9 : Arv Z h9 d kd .byte (3 : Int32) [(.int (c0.toInt8.toInt32)), (.int ((c1.toInt8.toInt32).toInt8.toInt32)), (.int (0 : Int32))] (.int (0 : Int32)) := Arv.set Ar8 q8 Sz8 Nn8 Hh8 G8 (fits_nar_byte _) W9 1 rfl (Nat.le_of_ble_eq_true rfl)
      rw [own_bb] at V9
      refine go_of (B := (T9.setTop (mkF m 32 #[.val (.ref s'), .val (.int (1 : Int32)), .val (.ref d), .val (.int (1 : Int32)), .val (.int (3 : Int32)), .val (.int (1 : Int32)), .val (.int c1)] []))) (st9) ?_
      refine go_of (B := (T9.setTop (mkF m 7 #[.val (.ref s'), .val (.int (2 : Int32)), .val (.ref d), .val (.int (2 : Int32)), .val (.int (3 : Int32)), .val (.int (2 : Int32)), .val (.int c1)] [(.int (3 : Int32)), (.int (2 : Int32))]))) (fun _ kk => XS.iinc X9.here hx rfl (hb hby d17_32) rfl rfl (XS.iinc X9.here hx rfl (hb hby d17_35) rfl rfl (XS.iinc X9.here hx rfl (hb hby d17_38) rfl rfl (XS.goto X9.here hx rfl (pc0 := 41) (pc' := 3) rfl (hb hby d17_41) (by decide) (by decide) (XS.iload X9.here hx rfl (hb hby d17_3) rfl (XS.iload X9.here hx rfl (hb hby d17_5) rfl kk)))))) ?_
      refine go_of (B := (T9.setTop (mkF m 12 #[.val (.ref s'), .val (.int (2 : Int32)), .val (.ref d), .val (.int (2 : Int32)), .val (.int (3 : Int32)), .val (.int (2 : Int32)), .val (.int c1)] [(.int (2 : Int32)), (.ref s')]))) (fun _ kk => XS.icmpNo X9.here hx rfl (hb hby d17_7) rfl (tlt (by decide : (2 : Int32) < (3 : Int32))).2.1 (XS.aloadN X9.here hx rfl (hb hby d17_10) rfl rfl (XS.iloadN X9.here hx rfl (hb hby d17_11) rfl kk))) ?_
      have cf_10 := (cf_5.other W9 (by first | omega | exact own_ne (by omega) | exact own_le (by omega)))
      obtain ⟨cl11, Ar11, q11, Sz11, Nn11, Hh11, G11⟩ := id (cf_10)
      refine go_of (B := (T9.setTop (mkF m 20 #[.val (.ref s'), .val (.int (2 : Int32)), .val (.ref d), .val (.int (2 : Int32)), .val (.int (3 : Int32)), .val (.int (2 : Int32)), .val (.int c2)] [(.int (255 : Int32)), (.int c2)]))) (fun _ kk => X9.caload hx (j := (2 : Int32)) (v := (.int c2)) (by rw [e9]; exact Ar11.1) (State.isArrayOf_alike hZ.alike Ar11.2.1) Ar11.2.2 (inb_of Sz11 ⟨by decide, by decide⟩) (Hh11.at (inb_of Sz11 ⟨by decide, by decide⟩) rfl) (g := (mkF m 12 #[.val (.ref s'), .val (.int (2 : Int32)), .val (.ref d), .val (.int (2 : Int32)), .val (.int (3 : Int32)), .val (.int (2 : Int32)), .val (.int c1)] [(.int (2 : Int32)), (.ref s')])) rfl rfl (hb hby d17_12) _ (XS.istore X9.here hx rfl (hb hby d17_13) rfl rfl (XS.iload X9.here hx rfl (hb hby d17_15) rfl (XS.sipush X9.here hx rfl (hb hby d17_17) kk)))) ?_
      by_cases hcc12 : (255 : Int32) < c2
      · refine go_of (B := (T9.setTop (mkF m 25 #[.val (.ref s'), .val (.int (2 : Int32)), .val (.ref d), .val (.int (2 : Int32)), .val (.int (3 : Int32)), .val (.int (2 : Int32)), .val (.int c2)] [(.int (2 : Int32))]))) (fun _ kk => XS.icmpNo X9.here hx rfl (hb hby d17_20) rfl (tlt hcc12).2.2.2 (XS.iload X9.here hx rfl (hb hby d17_23) rfl kk)) ?_
        refine go_end X9 (v := some (.int (2 : Int32))) (fun h => by rw [Bd.returns] at h; cases h) Bd.notSynchronized (by decide) (by decide) (Q := (Q_u_c5_3 Z s' d c0 c1 c2 ks kd h0 n0)) ?_ (fun fs hr => own_retI X9 hx Bd.returns (hb hby d17_25) hr)
        unfold Q_u_c5_3
        try rw [e9]
        exact ⟨_, rfl, N9, (((Keep.refl h0 [d]).wr W4 (Or.inl (List.mem_of_getElem? (i := 0) rfl))).wr W9 (Or.inl (List.mem_of_getElem? (i := 0) rfl))), Or.inr (Or.inr (Or.inr (⟨rfl, hcc12⟩)))⟩
      · refine go_of (B := (T9.setTop (mkF m 31 #[.val (.ref s'), .val (.int (2 : Int32)), .val (.ref d), .val (.int (2 : Int32)), .val (.int (3 : Int32)), .val (.int (2 : Int32)), .val (.int c2)] [(.int (c2.toInt8.toInt32)), (.int (2 : Int32)), (.ref d)]))) (fun _ kk => XS.icmpYes X9.here hx rfl (pc0 := 20) (pc' := 26) rfl (hb hby d17_20) rfl (flt hcc12).2.2.2 (by decide) (by decide) (XS.aloadN X9.here hx rfl (hb hby d17_26) rfl rfl (XS.iloadN X9.here hx rfl (hb hby d17_27) rfl (XS.iload X9.here hx rfl (hb hby d17_28) rfl (XS.i2b X9.here hx rfl (hb hby d17_30) rfl kk))))) ?_
        obtain ⟨cl13, Ar13, q13, Sz13, Nn13, Hh13, G13⟩ := id (V9)
        obtain ⟨T14, h14, X14, e14, W14, st14⟩ := stB X9 hx hZ e9 Ar13 (j := (2 : Int32)) (inb_of Sz13 ⟨by decide, by decide⟩) (g := (mkF m 31 #[.val (.ref s'), .val (.int (2 : Int32)), .val (.ref d), .val (.int (2 : Int32)), .val (.int (3 : Int32)), .val (.int (2 : Int32)), .val (.int c2)] [(.int (c2.toInt8.toInt32)), (.int (2 : Int32)), (.ref d)])) rfl rfl (hb hby d17_31)
        have sz14 := W14.size
        have N14 := Fr.snoc X14 N9 (g : n0 ≤ d)
        have V14 : Arv Z h14 d kd .byte (3 : Int32) [(.int (c0.toInt8.toInt32)), (.int (c1.toInt8.toInt32)), (.int ((c2.toInt8.toInt32).toInt8.toInt32))] (.int (0 : Int32)) := Arv.set Ar13 q13 Sz13 Nn13 Hh13 G13 (fits_nar_byte _) W14 2 rfl (Nat.le_of_ble_eq_true rfl)
        rw [own_bb] at V14
        refine go_of (B := (T14.setTop (mkF m 32 #[.val (.ref s'), .val (.int (2 : Int32)), .val (.ref d), .val (.int (2 : Int32)), .val (.int (3 : Int32)), .val (.int (2 : Int32)), .val (.int c2)] []))) (st14) ?_
        refine go_of (B := (T14.setTop (mkF m 7 #[.val (.ref s'), .val (.int (3 : Int32)), .val (.ref d), .val (.int (3 : Int32)), .val (.int (3 : Int32)), .val (.int (3 : Int32)), .val (.int c2)] [(.int (3 : Int32)), (.int (3 : Int32))]))) (fun _ kk => XS.iinc X14.here hx rfl (hb hby d17_32) rfl rfl (XS.iinc X14.here hx rfl (hb hby d17_35) rfl rfl (XS.iinc X14.here hx rfl (hb hby d17_38) rfl rfl (XS.goto X14.here hx rfl (pc0 := 41) (pc' := 3) rfl (hb hby d17_41) (by decide) (by decide) (XS.iload X14.here hx rfl (hb hby d17_3) rfl (XS.iload X14.here hx rfl (hb hby d17_5) rfl kk)))))) ?_
        refine go_of (B := (T14.setTop (mkF m 46 #[.val (.ref s'), .val (.int (3 : Int32)), .val (.ref d), .val (.int (3 : Int32)), .val (.int (3 : Int32)), .val (.int (3 : Int32)), .val (.int c2)] [(.int (3 : Int32))]))) (fun _ kk => XS.icmpYes X14.here hx rfl (pc0 := 7) (pc' := 44) rfl (hb hby d17_7) rfl (flt (by decide : ¬ ((3 : Int32) < (3 : Int32)))).2.1 (by decide) (by decide) (XS.iload X14.here hx rfl (hb hby d17_44) rfl kk)) ?_
        refine go_end X14 (v := some (.int (3 : Int32))) (fun h => by rw [Bd.returns] at h; cases h) Bd.notSynchronized (by decide) (by decide) (Q := (Q_u_c5_3 Z s' d c0 c1 c2 ks kd h0 n0)) ?_ (fun fs hr => own_retI X14 hx Bd.returns (hb hby d17_46) hr)
        unfold Q_u_c5_3
        try rw [e14]
        exact ⟨_, rfl, N14, ((((Keep.refl h0 [d]).wr W4 (Or.inl (List.mem_of_getElem? (i := 0) rfl))).wr W9 (Or.inl (List.mem_of_getElem? (i := 0) rfl))).wr W14 (Or.inl (List.mem_of_getElem? (i := 0) rfl))), Or.inl ⟨rfl, hcc2, hcc7, hcc12, V14⟩⟩
def Q_u_nbl_3 (Z : State)  (h0 : Heap) (n0 : Nat) (v : Option Value) (h : Heap) (L : List Loc) : Prop := v = some (.int 6) ∧ Fr n0 L ∧ h = h0
theorem ef_u_nbl_3 (m : MethodId)   : entryFrame m #[(.int (3 : Int32))] 1 = mkF m 0 #[.val (.int (3 : Int32))] [] := by first | (simp [entryFrame, mkF, argsToLocals, Value.category]; done) | rfl
theorem u_nbl_3 (l : Launch) (Z : State) (a0 : Array Value) (hw : TW a0 Z) (ws : List Cond)  (h0 : Heap) (n0 : Nat) (Z0 : n0 ≤ h0.size)  :
    own_MF l Z MN24 jdk_52_method_3_code 1 (some .int) ws (own_R 0 0 0 0) #[(.int (3 : Int32))] h0 (Q_u_nbl_3 Z  h0 n0) := by
  have wd := @own_wd _ _ hw
  refine MetFree.of_bodySF (plainFor_of_name pn_java_lang_StringUTF16) hisR ?_
  intro p e s m args below meth c s₁ Bd hml0 hP hK
  obtain ⟨rfl, hZ, hh⟩ := hP
  have hx := Bd.exec
  have hby := Bd.bytes
  have hml : c.maxLocals = 1 := hml0
  have hown : s.vm.findClass "java/lang/StringUTF16" = some m.cls := findClass_of_methodNamed Bd.named
  have hnm := (name_of_methodNamed Bd.named Bd.method).1
  have X0 : Stand p l e (own_R 0 0 0 0) s m #[(.int (3 : Int32))] below meth c s₁ [] 0 0 := Stand.of_body Bd
  have e0 : s₁.heap = h0 := by rw [← hh, Bd.state]; rfl
  have N0 := Fr.nil n0
  refine go_of (A := s₁.setTop (entryFrame m #[(.int (3 : Int32))] 1)) (B := s₁.setTop (mkF m 0 #[.val (.int (3 : Int32))] [])) (fun _ kk' => castTop (ef_u_nbl_3 m ) kk') ?_
  refine go_of (B := (s₁.setTop (mkF m 56 #[.val (.int (3 : Int32))] [(.int (3 : Int32))]))) (fun _ kk => XS.iloadN X0.here hx rfl (hb hby d22_0) rfl (XS.ifYes X0.here hx rfl (pc0 := 1) (pc' := 12) rfl (hb hby d22_1) rfl ((if0 _ _).trans (flt (by decide : ¬ ((3 : Int32) < (0 : Int32)))).2.1) (by decide) (by decide) (XS.iloadN X0.here hx rfl (hb hby d22_12) rfl (X0.ldcInt hx hown (mvT hZ (wd 97 rfl)) (g := (mkF m 13 #[.val (.int (3 : Int32))] [(.int (3 : Int32))])) rfl (hb hby d22_13) _ (XS.icmpYes X0.here hx rfl (pc0 := 15) (pc' := 55) rfl (hb hby d22_15) rfl (tlt (by decide : (3 : Int32) < (1073741823 : Int32))).1 (by decide) (by decide) (XS.iloadN X0.here hx rfl (hb hby d22_55) rfl kk)))))) ?_
  refine go_of (B := (s₁.setTop (mkF m 58 #[.val (.int (3 : Int32))] [(.int (6 : Int32))]))) (fun _ kk => XS.iconst X0.here hx rfl (hb hby d22_56) (XS.ishl X0.here hx rfl (hb hby d22_57) rfl kk)) ?_
  refine go_end X0 (v := some (.int (6 : Int32))) (fun h => by rw [Bd.returns] at h; cases h) Bd.notSynchronized (by decide) (by decide) (Q := (Q_u_nbl_3 Z  h0 n0)) ?_ (fun fs hr => own_retI X0 hx Bd.returns (hb hby d22_58) hr)
  unfold Q_u_nbl_3
  try rw [e0]
  exact ⟨rfl, N0, rfl⟩
def Q_u_nbf_3 (Z : State)  (h0 : Heap) (n0 : Nat) (v : Option Value) (h : Heap) (L : List Loc) : Prop := ∃ (t : Addr) (k : ClassId), v = some (.ref t) ∧ Fr n0 L ∧ h0.size ≤ t ∧ Keep h0 h [] ∧ Arv Z h t k .byte 6 [(.int 0), (.int 0), (.int 0), (.int 0), (.int 0), (.int 0)] (.int 0)
theorem ef_u_nbf_3 (m : MethodId)   : entryFrame m #[(.int (3 : Int32))] 1 = mkF m 0 #[.val (.int (3 : Int32))] [] := by first | (simp [entryFrame, mkF, argsToLocals, Value.category]; done) | rfl
theorem u_nbf_3 (l : Launch) (Z : State) (a0 : Array Value) (hw : TW a0 Z) (ws : List Cond)  (h0 : Heap) (n0 : Nat) (Z0 : n0 ≤ h0.size)  :
    own_MF l Z MN23 jdk_52_method_2_code 1 (some (.array .byte)) ws (own_R 1 1 6 12) #[(.int (3 : Int32))] h0 (Q_u_nbf_3 Z  h0 n0) := by
  have wd := @own_wd _ _ hw
  refine MetFree.of_bodySF (plainFor_of_name pn_java_lang_StringUTF16) hisR ?_
  intro p e s m args below meth c s₁ Bd hml0 hP hK
  obtain ⟨rfl, hZ, hh⟩ := hP
  have hx := Bd.exec
  have hby := Bd.bytes
  have hml : c.maxLocals = 1 := hml0
  have hown : s.vm.findClass "java/lang/StringUTF16" = some m.cls := findClass_of_methodNamed Bd.named
  have hnm := (name_of_methodNamed Bd.named Bd.method).1
  have X0 : Stand p l e (own_R 1 1 6 12) s m #[(.int (3 : Int32))] below meth c s₁ [] 0 0 := Stand.of_body Bd
  have e0 : s₁.heap = h0 := by rw [← hh, Bd.state]; rfl
  have N0 := Fr.nil n0
  refine go_of (A := s₁.setTop (entryFrame m #[(.int (3 : Int32))] 1)) (B := s₁.setTop (mkF m 0 #[.val (.int (3 : Int32))] [])) (fun _ kk' => castTop (ef_u_nbf_3 m ) kk') ?_
  refine go_of (B := (s₁.setTop (mkF m 1 #[.val (.int (3 : Int32))] [(.int (3 : Int32))]))) (fun _ kk => XS.iloadN X0.here hx rfl (hb hby d21_0) rfl kk) ?_
  obtain ⟨_, _, ⟨T1, L1, k1, n1⟩, -, X1, ⟨Lc1, hQ1, l1, y1, z1⟩, st1⟩ := Jvm.LawKit.callS X0 hx (y := MN24) hown (mvT hZ (wd 94 rfl)) (mvT hZ (wd 95 rfl)) (mvT hZ (wd 77 rfl)) (mvT hZ (wd 96 rfl)) (by decide) (backOf (W := 0) (u_nbl_3 l Z a0 hw [] h0 n0 (by omega)) hZ (wd 96 rfl) (wd 77 rfl) (by decide) (by decide)) (g := (mkF m 1 #[.val (.int (3 : Int32))] [(.int (3 : Int32))])) rfl (by rw [hml]; rfl) (argsL := [(.int (3 : Int32))]) (rest := []) (lenOf pd__I_I rfl) rfl (Nat.le_of_eq rfl) (hb hby d21_1) (fun _ _ => ⟨rfl, e0, (by decide : 0 + 0 ≤ _), (by decide : 0 + 0 ≤ _)⟩)
  dsimp only [Pt.U, Pt.locs, Pt.cells, Pt.slots] at X1 l1 y1 z1 st1 hQ1
  subst l1 y1 z1
  obtain ⟨rfl, N1q, e1⟩ := hQ1
  have N1 := Fr.app N0 N1q
  refine go_of (B := (T1.setTop (mkF m 4 #[.val (.int (3 : Int32))] [(.int (6 : Int32))]))) (st1) ?_
  obtain ⟨T2, h2, k2, X2, e2, E2, A2, st2⟩ := newP X1 hx hZ (wd 21 rfl) e1 (g := (mkF m 4 #[.val (.int (3 : Int32))] [(.int (6 : Int32))])) rfl (hb hby d21_4) rfl (by decide) (cap := 6) (by decide) (by decide) (by decide) (by decide)
  obtain ⟨b2, g2⟩ : ∃ z, z = h0.size := ⟨_, rfl⟩
  rw [← g2] at A2 st2
  have hi2 := own_nlt A2.lt
  have sz2 := E2.1
  have V2 : Arv Z h2 b2 k2 .byte (6 : Int32) [(.int (0 : Int32)), (.int (0 : Int32)), (.int (0 : Int32)), (.int (0 : Int32)), (.int (0 : Int32)), (.int (0 : Int32))] (.int (0 : Int32)) := (Arv.new A2 (by decide)).pad (pad_rep [] (.int (0 : Int32)) 6)
  refine go_of (B := (T2.setTop (mkF m 6 #[.val (.int (3 : Int32))] [(.ref b2)]))) (st2) ?_
  refine go_end X2 (v := some (.ref b2)) (fun h => by rw [Bd.returns] at h; cases h) Bd.notSynchronized (by decide) (by decide) (Q := (Q_u_nbf_3 Z  h0 n0)) ?_ (fun fs hr => own_retA X2 hx Bd.returns rfl rfl (hb hby d21_6) hr)
  unfold Q_u_nbf_3
  try rw [e2]
  exact ⟨b2, k2, rfl, N1, by omega, ((Keep.refl h0 []).ext E2), V2⟩
def Q_u_tob_3 (Z : State) (s' : Addr) (c0 : Int32) (c1 : Int32) (c2 : Int32) (ks : ClassId) (h0 : Heap) (n0 : Nat) (v : Option Value) (h : Heap) (L : List Loc) : Prop := ∃ (t : Addr) (k : ClassId), v = some (.ref t) ∧ Fr n0 L ∧ h0.size ≤ t ∧ Keep h0 h [] ∧ Arv Z h t k .byte 6 [(.int (own_b0 c0)), (.int (own_b1 c0)), (.int (own_b0 c1)), (.int (own_b1 c1)), (.int (own_b0 c2)), (.int (own_b1 c2))] (.int 0)
theorem ef_u_tob_3 (m : MethodId) (s' : Addr)  : entryFrame m #[(.ref s'), (.int (0 : Int32)), (.int (3 : Int32))] 5 = mkF m 0 #[.val (.ref s'), .val (.int (0 : Int32)), .val (.int (3 : Int32)), .unset, .unset] [] := by first | (simp [entryFrame, mkF, argsToLocals, Value.category]; done) | rfl
theorem u_tob_3 (l : Launch) (Z : State) (a0 : Array Value) (hw : TW a0 Z) (ws : List Cond) (s' : Addr) (c0 : Int32) (c1 : Int32) (c2 : Int32) (ks : ClassId) (h0 : Heap) (n0 : Nat) (Z0 : n0 ≤ h0.size) (O : Old Z n0 h0) (SU : US Z) (Vs : Arv Z h0 s' ks .char 3 [(.int c0), (.int c1), (.int c2)] (.int 0)) :
    own_MF l Z MN26 jdk_52_method_14_code 5 (some (.array .byte)) ws (own_R 2 1 6 24) #[(.ref s'), (.int (0 : Int32)), (.int (3 : Int32))] h0 (Q_u_tob_3 Z s' c0 c1 c2 ks h0 n0) := by
  have wd := @own_wd _ _ hw
  refine MetFree.of_bodySF (plainFor_of_name pn_java_lang_StringUTF16) hisR ?_
  intro p e s m args below meth c s₁ Bd hml0 hP hK
  obtain ⟨rfl, hZ, hh⟩ := hP
  have hx := Bd.exec
  have hby := Bd.bytes
  have hml : c.maxLocals = 5 := hml0
  have hown : s.vm.findClass "java/lang/StringUTF16" = some m.cls := findClass_of_methodNamed Bd.named
  have hnm := (name_of_methodNamed Bd.named Bd.method).1
  have X0 : Stand p l e (own_R 2 1 6 24) s m #[(.ref s'), (.int (0 : Int32)), (.int (3 : Int32))] below meth c s₁ [] 0 0 := Stand.of_body Bd
  have e0 : s₁.heap = h0 := by rw [← hh, Bd.state]; rfl
  have N0 := Fr.nil n0
  have lts := own_nlt (Vs.lt)
  refine go_of (A := s₁.setTop (entryFrame m #[(.ref s'), (.int (0 : Int32)), (.int (3 : Int32))] 5)) (B := s₁.setTop (mkF m 0 #[.val (.ref s'), .val (.int (0 : Int32)), .val (.int (3 : Int32)), .unset, .unset] [])) (fun _ kk' => castTop (ef_u_tob_3 m s') kk') ?_
  refine go_of (B := (s₁.setTop (mkF m 1 #[.val (.ref s'), .val (.int (0 : Int32)), .val (.int (3 : Int32)), .unset, .unset] [(.int (3 : Int32))]))) (fun _ kk => XS.iloadN X0.here hx rfl (hb hby d20_0) rfl kk) ?_
  obtain ⟨_, _, ⟨T1, L1, k1, n1⟩, -, X1, ⟨Lc1, hQ1, l1, y1, z1⟩, st1⟩ := Jvm.LawKit.callS X0 hx (y := MN23) hown (mvT hZ (wd 91 rfl)) (mvT hZ (wd 92 rfl)) (mvT hZ (wd 77 rfl)) (mvT hZ (wd 93 rfl)) (by decide) (backOf (W := 0) (u_nbf_3 l Z a0 hw [] h0 n0 (by omega)) hZ (wd 93 rfl) (wd 77 rfl) (by decide) (by decide)) (g := (mkF m 1 #[.val (.ref s'), .val (.int (0 : Int32)), .val (.int (3 : Int32)), .unset, .unset] [(.int (3 : Int32))])) rfl (by rw [hml]; rfl) (argsL := [(.int (3 : Int32))]) (rest := []) (lenOf pd__I__B rfl) rfl (Nat.le_of_eq rfl) (hb hby d20_1) (fun _ _ => ⟨rfl, e0, (by decide : 0 + 1 ≤ _), (by decide : 0 + 6 ≤ _)⟩)
  dsimp only [Pt.U, Pt.locs, Pt.cells, Pt.slots] at X1 l1 y1 z1 st1 hQ1
  subst l1 y1 z1
  obtain ⟨b1, k1, rfl, N1q, lo1, K1, V1⟩ := hQ1
  have lo1 := own_nle lo1
  have N1 := Fr.app N0 N1q
  have hi1 := own_nlt (V1.lt)
  have sz1 := K1.1
  refine go_of (B := (T1.setTop (mkF m 4 #[.val (.ref s'), .val (.int (0 : Int32)), .val (.int (3 : Int32)), .unset, .unset] [(.ref b1)]))) (st1) ?_
  refine go_of (B := (T1.setTop (mkF m 14 #[.val (.ref s'), .val (.int (0 : Int32)), .val (.int (3 : Int32)), .val (.ref b1), .val (.int (0 : Int32))] []))) (fun _ kk => XS.astoreN X1.here hx rfl (hb hby d20_4) rfl rfl rfl (XS.iconst X1.here hx rfl (hb hby d20_5) (XS.istore X1.here hx rfl (hb hby d20_6) rfl rfl (XS.iload X1.here hx rfl (hb hby d20_8) rfl (XS.iloadN X1.here hx rfl (hb hby d20_10) rfl (XS.icmpNo X1.here hx rfl (hb hby d20_11) rfl (tlt (by decide : (0 : Int32) < (3 : Int32))).2.1 kk)))))) ?_
  refine go_of (B := (T1.setTop (mkF m 19 #[.val (.ref s'), .val (.int (0 : Int32)), .val (.int (3 : Int32)), .val (.ref b1), .val (.int (0 : Int32))] [(.int (0 : Int32)), (.ref s'), (.int (0 : Int32)), (.ref b1)]))) (fun _ kk => XS.aloadN X1.here hx rfl (hb hby d20_14) rfl rfl (XS.iload X1.here hx rfl (hb hby d20_15) rfl (XS.aloadN X1.here hx rfl (hb hby d20_17) rfl rfl (XS.iloadN X1.here hx rfl (hb hby d20_18) rfl kk)))) ?_
  have cf_2 := (Vs.keep K1 nin0)
  obtain ⟨cl3, Ar3, q3, Sz3, Nn3, Hh3, G3⟩ := id (cf_2)
  refine go_of (B := (T1.setTop (mkF m 20 #[.val (.ref s'), .val (.int (0 : Int32)), .val (.int (3 : Int32)), .val (.ref b1), .val (.int (0 : Int32))] [(.int c0), (.int (0 : Int32)), (.ref b1)]))) (fun _ kk => X1.caload hx (j := (0 : Int32)) (v := (.int c0)) (by exact Ar3.1) (State.isArrayOf_alike hZ.alike Ar3.2.1) Ar3.2.2 (inb_of Sz3 ⟨by decide, by decide⟩) (Hh3.at (inb_of Sz3 ⟨by decide, by decide⟩) rfl) (g := (mkF m 19 #[.val (.ref s'), .val (.int (0 : Int32)), .val (.int (3 : Int32)), .val (.ref b1), .val (.int (0 : Int32))] [(.int (0 : Int32)), (.ref s'), (.int (0 : Int32)), (.ref b1)])) rfl rfl (hb hby d20_19) _ kk) ?_
  have cf_4 := (O.keep K1 all0)
  obtain ⟨_, _, ⟨T5, L5, k5, n5⟩, -, X5, ⟨Lc5, hQ5, l5, y5, z5⟩, st5⟩ := Jvm.LawKit.callS X1 hx (y := MN25) hown (mvT hZ (wd 98 rfl)) (mvT hZ (wd 99 rfl)) (mvT hZ (wd 77 rfl)) (mvT hZ (wd 100 rfl)) (by decide) (backOf (W := 0) (u_put l Z a0 hw [] b1 (0 : Int32) c0 (6 : Int32) _ 0 1 k1 T1.heap n0 (by omega) cf_4 SU V1 (by first | omega | exact own_ne (by omega) | exact own_le (by omega)) (by decide) (by decide) rfl rfl (Nat.le_of_ble_eq_true rfl) (Nat.le_of_ble_eq_true rfl)) hZ (wd 100 rfl) (wd 77 rfl) (by decide) (by decide)) (g := (mkF m 20 #[.val (.ref s'), .val (.int (0 : Int32)), .val (.int (3 : Int32)), .val (.ref b1), .val (.int (0 : Int32))] [(.int c0), (.int (0 : Int32)), (.ref b1)])) rfl (by rw [hml]; rfl) (argsL := [(.ref b1), (.int (0 : Int32)), (.int c0)]) (rest := []) (lenOf pd___BII_V rfl) rfl (Nat.le_of_eq rfl) (hb hby d20_20) (fun _ _ => ⟨rfl, rfl, (by decide : 1 + 0 ≤ _), (by decide : 6 + 0 ≤ _)⟩)
  dsimp only [Pt.U, Pt.locs, Pt.cells, Pt.slots] at X5 l5 y5 z5 st5 hQ5
  subst l5 y5 z5
  obtain ⟨rfl, N5q, K5, V5⟩ := hQ5
  have N5 := Fr.app N1 N5q
  have sz5 := K5.1
  refine go_of (B := (T5.setTop (mkF m 23 #[.val (.ref s'), .val (.int (0 : Int32)), .val (.int (3 : Int32)), .val (.ref b1), .val (.int (0 : Int32))] []))) (st5) ?_
  refine go_of (B := (T5.setTop (mkF m 14 #[.val (.ref s'), .val (.int (1 : Int32)), .val (.int (3 : Int32)), .val (.ref b1), .val (.int (1 : Int32))] []))) (fun _ kk => XS.iinc X5.here hx rfl (hb hby d20_23) rfl rfl (XS.iinc X5.here hx rfl (hb hby d20_26) rfl rfl (XS.goto X5.here hx rfl (pc0 := 29) (pc' := 8) rfl (hb hby d20_29) (by decide) (by decide) (XS.iload X5.here hx rfl (hb hby d20_8) rfl (XS.iloadN X5.here hx rfl (hb hby d20_10) rfl (XS.icmpNo X5.here hx rfl (hb hby d20_11) rfl (tlt (by decide : (1 : Int32) < (3 : Int32))).2.1 kk)))))) ?_
  refine go_of (B := (T5.setTop (mkF m 19 #[.val (.ref s'), .val (.int (1 : Int32)), .val (.int (3 : Int32)), .val (.ref b1), .val (.int (1 : Int32))] [(.int (1 : Int32)), (.ref s'), (.int (1 : Int32)), (.ref b1)]))) (fun _ kk => XS.aloadN X5.here hx rfl (hb hby d20_14) rfl rfl (XS.iload X5.here hx rfl (hb hby d20_15) rfl (XS.aloadN X5.here hx rfl (hb hby d20_17) rfl rfl (XS.iloadN X5.here hx rfl (hb hby d20_18) rfl kk)))) ?_
  have cf_6 := (cf_2.keep K5 (ninS (by first | omega | exact own_ne (by omega) | exact own_le (by omega)) nin0))
  obtain ⟨cl7, Ar7, q7, Sz7, Nn7, Hh7, G7⟩ := id (cf_6)
  refine go_of (B := (T5.setTop (mkF m 20 #[.val (.ref s'), .val (.int (1 : Int32)), .val (.int (3 : Int32)), .val (.ref b1), .val (.int (1 : Int32))] [(.int c1), (.int (1 : Int32)), (.ref b1)]))) (fun _ kk => X5.caload hx (j := (1 : Int32)) (v := (.int c1)) (by exact Ar7.1) (State.isArrayOf_alike hZ.alike Ar7.2.1) Ar7.2.2 (inb_of Sz7 ⟨by decide, by decide⟩) (Hh7.at (inb_of Sz7 ⟨by decide, by decide⟩) rfl) (g := (mkF m 19 #[.val (.ref s'), .val (.int (1 : Int32)), .val (.int (3 : Int32)), .val (.ref b1), .val (.int (1 : Int32))] [(.int (1 : Int32)), (.ref s'), (.int (1 : Int32)), (.ref b1)])) rfl rfl (hb hby d20_19) _ kk) ?_
  have cf_8 := (cf_4.keep K5 (allS (by first | omega | exact own_ne (by omega) | exact own_le (by omega)) all0))
  obtain ⟨_, _, ⟨T9, L9, k9, n9⟩, -, X9, ⟨Lc9, hQ9, l9, y9, z9⟩, st9⟩ := Jvm.LawKit.callS X5 hx (y := MN25) hown (mvT hZ (wd 98 rfl)) (mvT hZ (wd 99 rfl)) (mvT hZ (wd 77 rfl)) (mvT hZ (wd 100 rfl)) (by decide) (backOf (W := 0) (u_put l Z a0 hw [] b1 (1 : Int32) c1 (6 : Int32) _ 2 3 k1 T5.heap n0 (by omega) cf_8 SU V5 (by first | omega | exact own_ne (by omega) | exact own_le (by omega)) (by decide) (by decide) rfl rfl (Nat.le_of_ble_eq_true rfl) (Nat.le_of_ble_eq_true rfl)) hZ (wd 100 rfl) (wd 77 rfl) (by decide) (by decide)) (g := (mkF m 20 #[.val (.ref s'), .val (.int (1 : Int32)), .val (.int (3 : Int32)), .val (.ref b1), .val (.int (1 : Int32))] [(.int c1), (.int (1 : Int32)), (.ref b1)])) rfl (by rw [hml]; rfl) (argsL := [(.ref b1), (.int (1 : Int32)), (.int c1)]) (rest := []) (lenOf pd___BII_V rfl) rfl (Nat.le_of_eq rfl) (hb hby d20_20) (fun _ _ => ⟨rfl, rfl, (by decide : 1 + 0 ≤ _), (by decide : 6 + 0 ≤ _)⟩)
  dsimp only [Pt.U, Pt.locs, Pt.cells, Pt.slots] at X9 l9 y9 z9 st9 hQ9
  subst l9 y9 z9
  obtain ⟨rfl, N9q, K9, V9⟩ := hQ9
  have N9 := Fr.app N5 N9q
  have sz9 := K9.1
  refine go_of (B := (T9.setTop (mkF m 23 #[.val (.ref s'), .val (.int (1 : Int32)), .val (.int (3 : Int32)), .val (.ref b1), .val (.int (1 : Int32))] []))) (st9) ?_
  refine go_of (B := (T9.setTop (mkF m 14 #[.val (.ref s'), .val (.int (2 : Int32)), .val (.int (3 : Int32)), .val (.ref b1), .val (.int (2 : Int32))] []))) (fun _ kk => XS.iinc X9.here hx rfl (hb hby d20_23) rfl rfl (XS.iinc X9.here hx rfl (hb hby d20_26) rfl rfl (XS.goto X9.here hx rfl (pc0 := 29) (pc' := 8) rfl (hb hby d20_29) (by decide) (by decide) (XS.iload X9.here hx rfl (hb hby d20_8) rfl (XS.iloadN X9.here hx rfl (hb hby d20_10) rfl (XS.icmpNo X9.here hx rfl (hb hby d20_11) rfl (tlt (by decide : (2 : Int32) < (3 : Int32))).2.1 kk)))))) ?_
  refine go_of (B := (T9.setTop (mkF m 19 #[.val (.ref s'), .val (.int (2 : Int32)), .val (.int (3 : Int32)), .val (.ref b1), .val (.int (2 : Int32))] [(.int (2 : Int32)), (.ref s'), (.int (2 : Int32)), (.ref b1)]))) (fun _ kk => XS.aloadN X9.here hx rfl (hb hby d20_14) rfl rfl (XS.iload X9.here hx rfl (hb hby d20_15) rfl (XS.aloadN X9.here hx rfl (hb hby d20_17) rfl rfl (XS.iloadN X9.here hx rfl (hb hby d20_18) rfl kk)))) ?_
  have cf_10 := (cf_6.keep K9 (ninS (by first | omega | exact own_ne (by omega) | exact own_le (by omega)) nin0))
  obtain ⟨cl11, Ar11, q11, Sz11, Nn11, Hh11, G11⟩ := id (cf_10)
  refine go_of (B := (T9.setTop (mkF m 20 #[.val (.ref s'), .val (.int (2 : Int32)), .val (.int (3 : Int32)), .val (.ref b1), .val (.int (2 : Int32))] [(.int c2), (.int (2 : Int32)), (.ref b1)]))) (fun _ kk => X9.caload hx (j := (2 : Int32)) (v := (.int c2)) (by exact Ar11.1) (State.isArrayOf_alike hZ.alike Ar11.2.1) Ar11.2.2 (inb_of Sz11 ⟨by decide, by decide⟩) (Hh11.at (inb_of Sz11 ⟨by decide, by decide⟩) rfl) (g := (mkF m 19 #[.val (.ref s'), .val (.int (2 : Int32)), .val (.int (3 : Int32)), .val (.ref b1), .val (.int (2 : Int32))] [(.int (2 : Int32)), (.ref s'), (.int (2 : Int32)), (.ref b1)])) rfl rfl (hb hby d20_19) _ kk) ?_
  have cf_12 := (cf_8.keep K9 (allS (by first | omega | exact own_ne (by omega) | exact own_le (by omega)) all0))
  obtain ⟨_, _, ⟨T13, L13, k13, n13⟩, -, X13, ⟨Lc13, hQ13, l13, y13, z13⟩, st13⟩ := Jvm.LawKit.callS X9 hx (y := MN25) hown (mvT hZ (wd 98 rfl)) (mvT hZ (wd 99 rfl)) (mvT hZ (wd 77 rfl)) (mvT hZ (wd 100 rfl)) (by decide) (backOf (W := 0) (u_put l Z a0 hw [] b1 (2 : Int32) c2 (6 : Int32) _ 4 5 k1 T9.heap n0 (by omega) cf_12 SU V9 (by first | omega | exact own_ne (by omega) | exact own_le (by omega)) (by decide) (by decide) rfl rfl (Nat.le_of_ble_eq_true rfl) (Nat.le_of_ble_eq_true rfl)) hZ (wd 100 rfl) (wd 77 rfl) (by decide) (by decide)) (g := (mkF m 20 #[.val (.ref s'), .val (.int (2 : Int32)), .val (.int (3 : Int32)), .val (.ref b1), .val (.int (2 : Int32))] [(.int c2), (.int (2 : Int32)), (.ref b1)])) rfl (by rw [hml]; rfl) (argsL := [(.ref b1), (.int (2 : Int32)), (.int c2)]) (rest := []) (lenOf pd___BII_V rfl) rfl (Nat.le_of_eq rfl) (hb hby d20_20) (fun _ _ => ⟨rfl, rfl, (by decide : 1 + 0 ≤ _), (by decide : 6 + 0 ≤ _)⟩)
  dsimp only [Pt.U, Pt.locs, Pt.cells, Pt.slots] at X13 l13 y13 z13 st13 hQ13
  subst l13 y13 z13
  obtain ⟨rfl, N13q, K13, V13⟩ := hQ13
  have N13 := Fr.app N9 N13q
  have sz13 := K13.1
  refine go_of (B := (T13.setTop (mkF m 23 #[.val (.ref s'), .val (.int (2 : Int32)), .val (.int (3 : Int32)), .val (.ref b1), .val (.int (2 : Int32))] []))) (st13) ?_
  refine go_of (B := (T13.setTop (mkF m 32 #[.val (.ref s'), .val (.int (3 : Int32)), .val (.int (3 : Int32)), .val (.ref b1), .val (.int (3 : Int32))] []))) (fun _ kk => XS.iinc X13.here hx rfl (hb hby d20_23) rfl rfl (XS.iinc X13.here hx rfl (hb hby d20_26) rfl rfl (XS.goto X13.here hx rfl (pc0 := 29) (pc' := 8) rfl (hb hby d20_29) (by decide) (by decide) (XS.iload X13.here hx rfl (hb hby d20_8) rfl (XS.iloadN X13.here hx rfl (hb hby d20_10) rfl (XS.icmpYes X13.here hx rfl (pc0 := 11) (pc' := 32) rfl (hb hby d20_11) rfl (flt (by decide : ¬ ((3 : Int32) < (3 : Int32)))).2.1 (by decide) (by decide) kk)))))) ?_
  refine go_of (B := (T13.setTop (mkF m 33 #[.val (.ref s'), .val (.int (3 : Int32)), .val (.int (3 : Int32)), .val (.ref b1), .val (.int (3 : Int32))] [(.ref b1)]))) (fun _ kk => XS.aloadN X13.here hx rfl (hb hby d20_32) rfl rfl kk) ?_
  refine go_end X13 (v := some (.ref b1)) (fun h => by rw [Bd.returns] at h; cases h) Bd.notSynchronized (by decide) (by decide) (Q := (Q_u_tob_3 Z s' c0 c1 c2 ks h0 n0)) ?_ (fun fs hr => own_retA X13 hx Bd.returns rfl rfl (hb hby d20_33) hr)
  unfold Q_u_tob_3
  exact ⟨b1, k1, rfl, N13, by omega, (((((Keep.refl h0 []).trans K1 all0).trans K5 (allS (Or.inr (by first | omega | exact own_ne (by omega) | exact own_le (by omega))) all0)).trans K9 (allS (Or.inr (by first | omega | exact own_ne (by omega) | exact own_le (by omega))) all0)).trans K13 (allS (Or.inr (by first | omega | exact own_ne (by omega) | exact own_le (by omega))) all0)), V13⟩
def Q_u_c3_3 (Z : State) (s' : Addr) (c0 : Int32) (c1 : Int32) (c2 : Int32) (ks : ClassId) (h0 : Heap) (n0 : Nat) (v : Option Value) (h : Heap) (L : List Loc) : Prop := ∃ (t : Addr) (k : ClassId), v = some (.ref t) ∧ Fr n0 L ∧ h0.size ≤ t ∧ Keep h0 h [] ∧ ((¬ (255 : Int32) < c0 ∧ ¬ (255 : Int32) < c1 ∧ ¬ (255 : Int32) < c2 ∧ Arv Z h t k .byte 3 [(.int (own_b8 c0)), (.int (own_b8 c1)), (.int (own_b8 c2))] (.int 0)) ∨ Arv Z h t k .byte 6 [(.int (own_b0 c0)), (.int (own_b1 c0)), (.int (own_b0 c1)), (.int (own_b1 c1)), (.int (own_b0 c2)), (.int (own_b1 c2))] (.int 0))
theorem ef_u_c3_3 (m : MethodId) (s' : Addr)  : entryFrame m #[(.ref s'), (.int (0 : Int32)), (.int (3 : Int32))] 6 = mkF m 0 #[.val (.ref s'), .val (.int (0 : Int32)), .val (.int (3 : Int32)), .unset, .unset, .unset] [] := by first | (simp [entryFrame, mkF, argsToLocals, Value.category]; done) | rfl
theorem u_c3_3 (l : Launch) (Z : State) (a0 : Array Value) (hw : TW a0 Z) (ws : List Cond) (s' : Addr) (c0 : Int32) (c1 : Int32) (c2 : Int32) (ks : ClassId) (h0 : Heap) (n0 : Nat) (Z0 : n0 ≤ h0.size) (O : Old Z n0 h0) (SU : US Z) (Vs : Arv Z h0 s' ks .char 3 [(.int c0), (.int c1), (.int c2)] (.int 0)) (hc0 : ¬ c0 < 0 ∧ ¬ (65535 : Int32) < c0) (hc1 : ¬ c1 < 0 ∧ ¬ (65535 : Int32) < c1) (hc2 : ¬ c2 < 0 ∧ ¬ (65535 : Int32) < c2) :
    own_MF l Z MN17 jdk_52_method_16_code 6 (some (.array .byte)) ws (own_R 3 2 9 40) #[(.ref s'), (.int (0 : Int32)), (.int (3 : Int32))] h0 (Q_u_c3_3 Z s' c0 c1 c2 ks h0 n0) := by
  have wd := @own_wd _ _ hw
  refine MetFree.of_bodySF (plainFor_of_name pn_java_lang_StringUTF16) hisR ?_
  intro p e s m args below meth c s₁ Bd hml0 hP hK
  obtain ⟨rfl, hZ, hh⟩ := hP
  have hx := Bd.exec
  have hby := Bd.bytes
  have hml : c.maxLocals = 6 := hml0
  have hown : s.vm.findClass "java/lang/StringUTF16" = some m.cls := findClass_of_methodNamed Bd.named
  have hnm := (name_of_methodNamed Bd.named Bd.method).1
  have X0 : Stand p l e (own_R 3 2 9 40) s m #[(.ref s'), (.int (0 : Int32)), (.int (3 : Int32))] below meth c s₁ [] 0 0 := Stand.of_body Bd
  have e0 : s₁.heap = h0 := by rw [← hh, Bd.state]; rfl
  have N0 := Fr.nil n0
  have lts := own_nlt (Vs.lt)
  refine go_of (A := s₁.setTop (entryFrame m #[(.ref s'), (.int (0 : Int32)), (.int (3 : Int32))] 6)) (B := s₁.setTop (mkF m 0 #[.val (.ref s'), .val (.int (0 : Int32)), .val (.int (3 : Int32)), .unset, .unset, .unset] [])) (fun _ kk' => castTop (ef_u_c3_3 m s') kk') ?_
  refine go_of (B := (s₁.setTop (mkF m 1 #[.val (.ref s'), .val (.int (0 : Int32)), .val (.int (3 : Int32)), .unset, .unset, .unset] [(.int (3 : Int32))]))) (fun _ kk => XS.iloadN X0.here hx rfl (hb hby d16_0) rfl kk) ?_
  obtain ⟨T1, h1, k1, X1, e1, E1, A1, st1⟩ := newP X0 hx hZ (wd 21 rfl) e0 (g := (mkF m 1 #[.val (.ref s'), .val (.int (0 : Int32)), .val (.int (3 : Int32)), .unset, .unset, .unset] [(.int (3 : Int32))])) rfl (hb hby d16_1) rfl (by decide) (cap := 3) (by decide) (by decide) (by decide) (by decide)
  obtain ⟨b1, g1⟩ : ∃ z, z = h0.size := ⟨_, rfl⟩
  rw [← g1] at A1 st1
  have hi1 := own_nlt A1.lt
  have sz1 := E1.1
  have V1 : Arv Z h1 b1 k1 .byte (3 : Int32) [(.int (0 : Int32)), (.int (0 : Int32)), (.int (0 : Int32))] (.int (0 : Int32)) := (Arv.new A1 (by decide)).pad (pad_rep [] (.int (0 : Int32)) 3)
  refine go_of (B := (T1.setTop (mkF m 3 #[.val (.ref s'), .val (.int (0 : Int32)), .val (.int (3 : Int32)), .unset, .unset, .unset] [(.ref b1)]))) (st1) ?_
  refine go_of (B := (T1.setTop (mkF m 9 #[.val (.ref s'), .val (.int (0 : Int32)), .val (.int (3 : Int32)), .val (.ref b1), .unset, .unset] [(.int (3 : Int32)), (.int (0 : Int32)), (.ref b1), (.int (0 : Int32)), (.ref s')]))) (fun _ kk => XS.astoreN X1.here hx rfl (hb hby d16_3) rfl rfl rfl (XS.aloadN X1.here hx rfl (hb hby d16_4) rfl rfl (XS.iloadN X1.here hx rfl (hb hby d16_5) rfl (XS.aloadN X1.here hx rfl (hb hby d16_6) rfl rfl (XS.iconst X1.here hx rfl (hb hby d16_7) (XS.iloadN X1.here hx rfl (hb hby d16_8) rfl kk)))))) ?_
  have cf_2 := (Vs.ext E1)
  obtain ⟨_, _, ⟨T3, L3, k3, n3⟩, -, X3, ⟨Lc3, hQ3, l3, y3, z3⟩, st3⟩ := Jvm.LawKit.callS X1 hx (y := MN18) hown (mvT hZ (wd 79 rfl)) (mvT hZ (wd 80 rfl)) (mvT hZ (wd 77 rfl)) (mvT hZ (wd 81 rfl)) (by decide) (backOf (W := 0) (u_c5_3 l Z a0 hw [] s' b1 c0 c1 c2 ks k1 h1 n0 (by omega) cf_2 V1 (by first | omega | exact own_ne (by omega) | exact own_le (by omega)) (by first | omega | exact own_ne (by omega) | exact own_le (by omega))) hZ (wd 81 rfl) (wd 77 rfl) (by decide) (by decide)) (g := (mkF m 9 #[.val (.ref s'), .val (.int (0 : Int32)), .val (.int (3 : Int32)), .val (.ref b1), .unset, .unset] [(.int (3 : Int32)), (.int (0 : Int32)), (.ref b1), (.int (0 : Int32)), (.ref s')])) rfl (by rw [hml]; rfl) (argsL := [(.ref s'), (.int (0 : Int32)), (.ref b1), (.int (0 : Int32)), (.int (3 : Int32))]) (rest := []) (lenOf pd___CI_BII_I rfl) rfl (Nat.le_of_eq rfl) (hb hby d16_9) (fun _ _ => ⟨rfl, e1, (by decide : 1 + 0 ≤ _), (by decide : 3 + 0 ≤ _)⟩)
  dsimp only [Pt.U, Pt.locs, Pt.cells, Pt.slots] at X3 l3 y3 z3 st3 hQ3
  subst l3 y3 z3
  obtain ⟨r3, rfl, N3q, K3, H3⟩ := hQ3
  have N3 := Fr.app N0 N3q
  have sz3 := K3.1
  refine go_of (B := (T3.setTop (mkF m 12 #[.val (.ref s'), .val (.int (0 : Int32)), .val (.int (3 : Int32)), .val (.ref b1), .unset, .unset] [(.int r3)]))) (st3) ?_
  rcases H3 with ⟨rfl, hl0, hl1, hl2, V3⟩ | ⟨rfl, hg⟩ | ⟨rfl, hg⟩ | ⟨rfl, hg⟩
  · refine go_of (B := (T3.setTop (mkF m 58 #[.val (.ref s'), .val (.int (0 : Int32)), .val (.int (3 : Int32)), .val (.ref b1), .val (.int (3 : Int32)), .unset] [(.ref b1)]))) (fun _ kk => XS.istore X3.here hx rfl (hb hby d16_12) rfl rfl (XS.iload X3.here hx rfl (hb hby d16_14) rfl (XS.iloadN X3.here hx rfl (hb hby d16_16) rfl (XS.icmpYes X3.here hx rfl (pc0 := 17) (pc' := 57) rfl (hb hby d16_17) rfl (teq (by decide : (3 : Int32) = (3 : Int32))).1 (by decide) (by decide) (XS.aloadN X3.here hx rfl (hb hby d16_57) rfl rfl kk))))) ?_
    refine go_end X3 (v := some (.ref b1)) (fun h => by rw [Bd.returns] at h; cases h) Bd.notSynchronized (by decide) (by decide) (Q := (Q_u_c3_3 Z s' c0 c1 c2 ks h0 n0)) ?_ (fun fs hr => own_retA X3 hx Bd.returns rfl rfl (hb hby d16_58) hr)
    unfold Q_u_c3_3
    exact ⟨b1, k1, rfl, N3, by omega, (((Keep.refl h0 []).ext E1).trans K3 (allS (Or.inr (by first | omega | exact own_ne (by omega) | exact own_le (by omega))) all0)), Or.inl ⟨hl0, hl1, hl2, V3⟩⟩
  · refine go_of (B := (T3.setTop (mkF m 22 #[.val (.ref s'), .val (.int (0 : Int32)), .val (.int (3 : Int32)), .val (.ref b1), .val (.int (0 : Int32)), .unset] [(.int (0 : Int32)), (.ref s')]))) (fun _ kk => XS.istore X3.here hx rfl (hb hby d16_12) rfl rfl (XS.iload X3.here hx rfl (hb hby d16_14) rfl (XS.iloadN X3.here hx rfl (hb hby d16_16) rfl (XS.icmpNo X3.here hx rfl (hb hby d16_17) rfl (feq (by decide : ¬ ((0 : Int32) = (3 : Int32)))).1 (XS.aloadN X3.here hx rfl (hb hby d16_20) rfl rfl (XS.iloadN X3.here hx rfl (hb hby d16_21) rfl kk)))))) ?_
    refine go_of (B := (T3.setTop (mkF m 23 #[.val (.ref s'), .val (.int (0 : Int32)), .val (.int (3 : Int32)), .val (.ref b1), .val (.int (0 : Int32)), .unset] [(.int (3 : Int32)), (.int (0 : Int32)), (.ref s')]))) (fun _ kk => XS.iloadN X3.here hx rfl (hb hby d16_22) rfl kk) ?_
    have cf_4 := ((O.ext E1).keep K3 (allS (by first | omega | exact own_ne (by omega) | exact own_le (by omega)) all0))
    have cf_5 := (cf_2.keep K3 (ninS (by first | omega | exact own_ne (by omega) | exact own_le (by omega)) nin0))
    obtain ⟨_, _, ⟨T6, L6, k6, n6⟩, -, X6, ⟨Lc6, hQ6, l6, y6, z6⟩, st6⟩ := Jvm.LawKit.callS X3 hx (y := MN26) hown (mvT hZ (wd 88 rfl)) (mvT hZ (wd 89 rfl)) (mvT hZ (wd 77 rfl)) (mvT hZ (wd 90 rfl)) (by decide) (backOf (W := 0) (u_tob_3 l Z a0 hw [] s' c0 c1 c2 ks T3.heap n0 (by omega) cf_4 SU cf_5) hZ (wd 90 rfl) (wd 77 rfl) (by decide) (by decide)) (g := (mkF m 23 #[.val (.ref s'), .val (.int (0 : Int32)), .val (.int (3 : Int32)), .val (.ref b1), .val (.int (0 : Int32)), .unset] [(.int (3 : Int32)), (.int (0 : Int32)), (.ref s')])) rfl (by rw [hml]; rfl) (argsL := [(.ref s'), (.int (0 : Int32)), (.int (3 : Int32))]) (rest := []) (lenOf pd___CII__B rfl) rfl (Nat.le_of_eq rfl) (hb hby d16_23) (fun _ _ => ⟨rfl, rfl, (by decide : 1 + 1 ≤ _), (by decide : 3 + 6 ≤ _)⟩)
    dsimp only [Pt.U, Pt.locs, Pt.cells, Pt.slots] at X6 l6 y6 z6 st6 hQ6
    subst l6 y6 z6
    obtain ⟨b6, k6, rfl, N6q, lo6, K6, V6⟩ := hQ6
    have lo6 := own_nle lo6
    have N6 := Fr.app N3 N6q
    have hi6 := own_nlt (V6.lt)
    have sz6 := K6.1
    refine go_of (B := (T6.setTop (mkF m 26 #[.val (.ref s'), .val (.int (0 : Int32)), .val (.int (3 : Int32)), .val (.ref b1), .val (.int (0 : Int32)), .unset] [(.ref b6)]))) (st6) ?_
    refine go_of (B := (T6.setTop (mkF m 32 #[.val (.ref s'), .val (.int (0 : Int32)), .val (.int (3 : Int32)), .val (.ref b1), .val (.int (0 : Int32)), .val (.ref b6)] [(.int (0 : Int32)), (.ref b6)]))) (fun _ kk => XS.astore X6.here hx rfl (hb hby d16_26) rfl rfl rfl (XS.aload X6.here hx rfl (hb hby d16_28) rfl rfl (XS.iload X6.here hx rfl (hb hby d16_30) rfl kk))) ?_
    have cf_7 := (cf_4.keep K6 all0)
    obtain ⟨_, _, ⟨T8, L8, k8, n8⟩, -, X8, ⟨Lc8, hQ8, l8, y8, z8⟩, st8⟩ := Jvm.LawKit.callS X6 hx (y := MN19) hown (mvT hZ (wd 104 rfl)) (mvT hZ (wd 105 rfl)) (mvT hZ (wd 77 rfl)) (mvT hZ (wd 106 rfl)) (by decide) (backOf (W := 0) (u_get l Z a0 hw [] b6 (0 : Int32) (6 : Int32) _ c0 k6 T6.heap n0 (by omega) cf_7 SU V6 (by decide) (by decide) rfl rfl hc0) hZ (wd 106 rfl) (wd 77 rfl) (by decide) (by decide)) (g := (mkF m 32 #[.val (.ref s'), .val (.int (0 : Int32)), .val (.int (3 : Int32)), .val (.ref b1), .val (.int (0 : Int32)), .val (.ref b6)] [(.int (0 : Int32)), (.ref b6)])) rfl (by rw [hml]; rfl) (argsL := [(.ref b6), (.int (0 : Int32))]) (rest := []) (lenOf pd___BI_C rfl) rfl (Nat.le_of_eq rfl) (hb hby d16_32) (fun _ _ => ⟨rfl, rfl, (by decide : 2 + 0 ≤ _), (by decide : 9 + 0 ≤ _)⟩)
    dsimp only [Pt.U, Pt.locs, Pt.cells, Pt.slots] at X8 l8 y8 z8 st8 hQ8
    subst l8 y8 z8
    obtain ⟨rfl, N8q, e8⟩ := hQ8
    have N8 := Fr.app N6 N8q
    refine go_of (B := (T8.setTop (mkF m 35 #[.val (.ref s'), .val (.int (0 : Int32)), .val (.int (3 : Int32)), .val (.ref b1), .val (.int (0 : Int32)), .val (.ref b6)] [(.int c0)]))) (st8) ?_
    refine go_of (B := (T8.setTop (mkF m 56 #[.val (.ref s'), .val (.int (0 : Int32)), .val (.int (3 : Int32)), .val (.ref b1), .val (.int (0 : Int32)), .val (.ref b6)] [(.ref b6)]))) (fun _ kk => XS.sipush X8.here hx rfl (hb hby d16_35) (XS.icmpYes X8.here hx rfl (pc0 := 38) (pc' := 54) rfl (hb hby d16_38) rfl (tlt hg).2.2.1 (by decide) (by decide) (XS.aload X8.here hx rfl (hb hby d16_54) rfl rfl kk))) ?_
    refine go_end X8 (v := some (.ref b6)) (fun h => by rw [Bd.returns] at h; cases h) Bd.notSynchronized (by decide) (by decide) (Q := (Q_u_c3_3 Z s' c0 c1 c2 ks h0 n0)) ?_ (fun fs hr => own_retA X8 hx Bd.returns rfl rfl (hb hby d16_56) hr)
    unfold Q_u_c3_3
    try rw [e8]
    exact ⟨b6, k6, rfl, N8, by omega, ((((Keep.refl h0 []).ext E1).trans K3 (allS (Or.inr (by first | omega | exact own_ne (by omega) | exact own_le (by omega))) all0)).trans K6 all0), Or.inr V6⟩
  · refine go_of (B := (T3.setTop (mkF m 22 #[.val (.ref s'), .val (.int (0 : Int32)), .val (.int (3 : Int32)), .val (.ref b1), .val (.int (1 : Int32)), .unset] [(.int (0 : Int32)), (.ref s')]))) (fun _ kk => XS.istore X3.here hx rfl (hb hby d16_12) rfl rfl (XS.iload X3.here hx rfl (hb hby d16_14) rfl (XS.iloadN X3.here hx rfl (hb hby d16_16) rfl (XS.icmpNo X3.here hx rfl (hb hby d16_17) rfl (feq (by decide : ¬ ((1 : Int32) = (3 : Int32)))).1 (XS.aloadN X3.here hx rfl (hb hby d16_20) rfl rfl (XS.iloadN X3.here hx rfl (hb hby d16_21) rfl kk)))))) ?_
    refine go_of (B := (T3.setTop (mkF m 23 #[.val (.ref s'), .val (.int (0 : Int32)), .val (.int (3 : Int32)), .val (.ref b1), .val (.int (1 : Int32)), .unset] [(.int (3 : Int32)), (.int (0 : Int32)), (.ref s')]))) (fun _ kk => XS.iloadN X3.here hx rfl (hb hby d16_22) rfl kk) ?_
    have cf_9 := ((O.ext E1).keep K3 (allS (by first | omega | exact own_ne (by omega) | exact own_le (by omega)) all0))
    have cf_10 := (cf_2.keep K3 (ninS (by first | omega | exact own_ne (by omega) | exact own_le (by omega)) nin0))
    obtain ⟨_, _, ⟨T11, L11, k11, n11⟩, -, X11, ⟨Lc11, hQ11, l11, y11, z11⟩, st11⟩ := Jvm.LawKit.callS X3 hx (y := MN26) hown (mvT hZ (wd 88 rfl)) (mvT hZ (wd 89 rfl)) (mvT hZ (wd 77 rfl)) (mvT hZ (wd 90 rfl)) (by decide) (backOf (W := 0) (u_tob_3 l Z a0 hw [] s' c0 c1 c2 ks T3.heap n0 (by omega) cf_9 SU cf_10) hZ (wd 90 rfl) (wd 77 rfl) (by decide) (by decide)) (g := (mkF m 23 #[.val (.ref s'), .val (.int (0 : Int32)), .val (.int (3 : Int32)), .val (.ref b1), .val (.int (1 : Int32)), .unset] [(.int (3 : Int32)), (.int (0 : Int32)), (.ref s')])) rfl (by rw [hml]; rfl) (argsL := [(.ref s'), (.int (0 : Int32)), (.int (3 : Int32))]) (rest := []) (lenOf pd___CII__B rfl) rfl (Nat.le_of_eq rfl) (hb hby d16_23) (fun _ _ => ⟨rfl, rfl, (by decide : 1 + 1 ≤ _), (by decide : 3 + 6 ≤ _)⟩)
    dsimp only [Pt.U, Pt.locs, Pt.cells, Pt.slots] at X11 l11 y11 z11 st11 hQ11
    subst l11 y11 z11
    obtain ⟨b11, k11, rfl, N11q, lo11, K11, V11⟩ := hQ11
    have lo11 := own_nle lo11
    have N11 := Fr.app N3 N11q
    have hi11 := own_nlt (V11.lt)
    have sz11 := K11.1
    refine go_of (B := (T11.setTop (mkF m 26 #[.val (.ref s'), .val (.int (0 : Int32)), .val (.int (3 : Int32)), .val (.ref b1), .val (.int (1 : Int32)), .unset] [(.ref b11)]))) (st11) ?_
    refine go_of (B := (T11.setTop (mkF m 32 #[.val (.ref s'), .val (.int (0 : Int32)), .val (.int (3 : Int32)), .val (.ref b1), .val (.int (1 : Int32)), .val (.ref b11)] [(.int (1 : Int32)), (.ref b11)]))) (fun _ kk => XS.astore X11.here hx rfl (hb hby d16_26) rfl rfl rfl (XS.aload X11.here hx rfl (hb hby d16_28) rfl rfl (XS.iload X11.here hx rfl (hb hby d16_30) rfl kk))) ?_
    have cf_12 := (cf_9.keep K11 all0)
    obtain ⟨_, _, ⟨T13, L13, k13, n13⟩, -, X13, ⟨Lc13, hQ13, l13, y13, z13⟩, st13⟩ := Jvm.LawKit.callS X11 hx (y := MN19) hown (mvT hZ (wd 104 rfl)) (mvT hZ (wd 105 rfl)) (mvT hZ (wd 77 rfl)) (mvT hZ (wd 106 rfl)) (by decide) (backOf (W := 0) (u_get l Z a0 hw [] b11 (1 : Int32) (6 : Int32) _ c1 k11 T11.heap n0 (by omega) cf_12 SU V11 (by decide) (by decide) rfl rfl hc1) hZ (wd 106 rfl) (wd 77 rfl) (by decide) (by decide)) (g := (mkF m 32 #[.val (.ref s'), .val (.int (0 : Int32)), .val (.int (3 : Int32)), .val (.ref b1), .val (.int (1 : Int32)), .val (.ref b11)] [(.int (1 : Int32)), (.ref b11)])) rfl (by rw [hml]; rfl) (argsL := [(.ref b11), (.int (1 : Int32))]) (rest := []) (lenOf pd___BI_C rfl) rfl (Nat.le_of_eq rfl) (hb hby d16_32) (fun _ _ => ⟨rfl, rfl, (by decide : 2 + 0 ≤ _), (by decide : 9 + 0 ≤ _)⟩)
    dsimp only [Pt.U, Pt.locs, Pt.cells, Pt.slots] at X13 l13 y13 z13 st13 hQ13
    subst l13 y13 z13
    obtain ⟨rfl, N13q, e13⟩ := hQ13
    have N13 := Fr.app N11 N13q
    refine go_of (B := (T13.setTop (mkF m 35 #[.val (.ref s'), .val (.int (0 : Int32)), .val (.int (3 : Int32)), .val (.ref b1), .val (.int (1 : Int32)), .val (.ref b11)] [(.int c1)]))) (st13) ?_
    refine go_of (B := (T13.setTop (mkF m 56 #[.val (.ref s'), .val (.int (0 : Int32)), .val (.int (3 : Int32)), .val (.ref b1), .val (.int (1 : Int32)), .val (.ref b11)] [(.ref b11)]))) (fun _ kk => XS.sipush X13.here hx rfl (hb hby d16_35) (XS.icmpYes X13.here hx rfl (pc0 := 38) (pc' := 54) rfl (hb hby d16_38) rfl (tlt hg).2.2.1 (by decide) (by decide) (XS.aload X13.here hx rfl (hb hby d16_54) rfl rfl kk))) ?_
    refine go_end X13 (v := some (.ref b11)) (fun h => by rw [Bd.returns] at h; cases h) Bd.notSynchronized (by decide) (by decide) (Q := (Q_u_c3_3 Z s' c0 c1 c2 ks h0 n0)) ?_ (fun fs hr => own_retA X13 hx Bd.returns rfl rfl (hb hby d16_56) hr)
    unfold Q_u_c3_3
    try rw [e13]
    exact ⟨b11, k11, rfl, N13, by omega, ((((Keep.refl h0 []).ext E1).trans K3 (allS (Or.inr (by first | omega | exact own_ne (by omega) | exact own_le (by omega))) all0)).trans K11 all0), Or.inr V11⟩
  · refine go_of (B := (T3.setTop (mkF m 22 #[.val (.ref s'), .val (.int (0 : Int32)), .val (.int (3 : Int32)), .val (.ref b1), .val (.int (2 : Int32)), .unset] [(.int (0 : Int32)), (.ref s')]))) (fun _ kk => XS.istore X3.here hx rfl (hb hby d16_12) rfl rfl (XS.iload X3.here hx rfl (hb hby d16_14) rfl (XS.iloadN X3.here hx rfl (hb hby d16_16) rfl (XS.icmpNo X3.here hx rfl (hb hby d16_17) rfl (feq (by decide : ¬ ((2 : Int32) = (3 : Int32)))).1 (XS.aloadN X3.here hx rfl (hb hby d16_20) rfl rfl (XS.iloadN X3.here hx rfl (hb hby d16_21) rfl kk)))))) ?_
    refine go_of (B := (T3.setTop (mkF m 23 #[.val (.ref s'), .val (.int (0 : Int32)), .val (.int (3 : Int32)), .val (.ref b1), .val (.int (2 : Int32)), .unset] [(.int (3 : Int32)), (.int (0 : Int32)), (.ref s')]))) (fun _ kk => XS.iloadN X3.here hx rfl (hb hby d16_22) rfl kk) ?_
    have cf_14 := ((O.ext E1).keep K3 (allS (by first | omega | exact own_ne (by omega) | exact own_le (by omega)) all0))
    have cf_15 := (cf_2.keep K3 (ninS (by first | omega | exact own_ne (by omega) | exact own_le (by omega)) nin0))
    obtain ⟨_, _, ⟨T16, L16, k16, n16⟩, -, X16, ⟨Lc16, hQ16, l16, y16, z16⟩, st16⟩ := Jvm.LawKit.callS X3 hx (y := MN26) hown (mvT hZ (wd 88 rfl)) (mvT hZ (wd 89 rfl)) (mvT hZ (wd 77 rfl)) (mvT hZ (wd 90 rfl)) (by decide) (backOf (W := 0) (u_tob_3 l Z a0 hw [] s' c0 c1 c2 ks T3.heap n0 (by omega) cf_14 SU cf_15) hZ (wd 90 rfl) (wd 77 rfl) (by decide) (by decide)) (g := (mkF m 23 #[.val (.ref s'), .val (.int (0 : Int32)), .val (.int (3 : Int32)), .val (.ref b1), .val (.int (2 : Int32)), .unset] [(.int (3 : Int32)), (.int (0 : Int32)), (.ref s')])) rfl (by rw [hml]; rfl) (argsL := [(.ref s'), (.int (0 : Int32)), (.int (3 : Int32))]) (rest := []) (lenOf pd___CII__B rfl) rfl (Nat.le_of_eq rfl) (hb hby d16_23) (fun _ _ => ⟨rfl, rfl, (by decide : 1 + 1 ≤ _), (by decide : 3 + 6 ≤ _)⟩)
    dsimp only [Pt.U, Pt.locs, Pt.cells, Pt.slots] at X16 l16 y16 z16 st16 hQ16
    subst l16 y16 z16
    obtain ⟨b16, k16, rfl, N16q, lo16, K16, V16⟩ := hQ16
    have lo16 := own_nle lo16
    have N16 := Fr.app N3 N16q
    have hi16 := own_nlt (V16.lt)
    have sz16 := K16.1
    refine go_of (B := (T16.setTop (mkF m 26 #[.val (.ref s'), .val (.int (0 : Int32)), .val (.int (3 : Int32)), .val (.ref b1), .val (.int (2 : Int32)), .unset] [(.ref b16)]))) (st16) ?_
    refine go_of (B := (T16.setTop (mkF m 32 #[.val (.ref s'), .val (.int (0 : Int32)), .val (.int (3 : Int32)), .val (.ref b1), .val (.int (2 : Int32)), .val (.ref b16)] [(.int (2 : Int32)), (.ref b16)]))) (fun _ kk => XS.astore X16.here hx rfl (hb hby d16_26) rfl rfl rfl (XS.aload X16.here hx rfl (hb hby d16_28) rfl rfl (XS.iload X16.here hx rfl (hb hby d16_30) rfl kk))) ?_
    have cf_17 := (cf_14.keep K16 all0)
    obtain ⟨_, _, ⟨T18, L18, k18, n18⟩, -, X18, ⟨Lc18, hQ18, l18, y18, z18⟩, st18⟩ := Jvm.LawKit.callS X16 hx (y := MN19) hown (mvT hZ (wd 104 rfl)) (mvT hZ (wd 105 rfl)) (mvT hZ (wd 77 rfl)) (mvT hZ (wd 106 rfl)) (by decide) (backOf (W := 0) (u_get l Z a0 hw [] b16 (2 : Int32) (6 : Int32) _ c2 k16 T16.heap n0 (by omega) cf_17 SU V16 (by decide) (by decide) rfl rfl hc2) hZ (wd 106 rfl) (wd 77 rfl) (by decide) (by decide)) (g := (mkF m 32 #[.val (.ref s'), .val (.int (0 : Int32)), .val (.int (3 : Int32)), .val (.ref b1), .val (.int (2 : Int32)), .val (.ref b16)] [(.int (2 : Int32)), (.ref b16)])) rfl (by rw [hml]; rfl) (argsL := [(.ref b16), (.int (2 : Int32))]) (rest := []) (lenOf pd___BI_C rfl) rfl (Nat.le_of_eq rfl) (hb hby d16_32) (fun _ _ => ⟨rfl, rfl, (by decide : 2 + 0 ≤ _), (by decide : 9 + 0 ≤ _)⟩)
    dsimp only [Pt.U, Pt.locs, Pt.cells, Pt.slots] at X18 l18 y18 z18 st18 hQ18
    subst l18 y18 z18
    obtain ⟨rfl, N18q, e18⟩ := hQ18
    have N18 := Fr.app N16 N18q
    refine go_of (B := (T18.setTop (mkF m 35 #[.val (.ref s'), .val (.int (0 : Int32)), .val (.int (3 : Int32)), .val (.ref b1), .val (.int (2 : Int32)), .val (.ref b16)] [(.int c2)]))) (st18) ?_
    refine go_of (B := (T18.setTop (mkF m 56 #[.val (.ref s'), .val (.int (0 : Int32)), .val (.int (3 : Int32)), .val (.ref b1), .val (.int (2 : Int32)), .val (.ref b16)] [(.ref b16)]))) (fun _ kk => XS.sipush X18.here hx rfl (hb hby d16_35) (XS.icmpYes X18.here hx rfl (pc0 := 38) (pc' := 54) rfl (hb hby d16_38) rfl (tlt hg).2.2.1 (by decide) (by decide) (XS.aload X18.here hx rfl (hb hby d16_54) rfl rfl kk))) ?_
    refine go_end X18 (v := some (.ref b16)) (fun h => by rw [Bd.returns] at h; cases h) Bd.notSynchronized (by decide) (by decide) (Q := (Q_u_c3_3 Z s' c0 c1 c2 ks h0 n0)) ?_ (fun fs hr => own_retA X18 hx Bd.returns rfl rfl (hb hby d16_56) hr)
    unfold Q_u_c3_3
    try rw [e18]
    exact ⟨b16, k16, rfl, N18, by omega, ((((Keep.refl h0 []).ext E1).trans K3 (allS (Or.inr (by first | omega | exact own_ne (by omega) | exact own_le (by omega))) all0)).trans K16 all0), Or.inr V16⟩
def Q_str_cf_3 (Z : State) (t : Addr) (k : ClassId) (vs : List Value) (h0 : Heap) (n0 : Nat) (v : Option Value) (h : Heap) (L : List Loc) : Prop := v = some (.int 0) ∧ Fr n0 L ∧ h = h0
theorem ef_str_cf_3 (m : MethodId) (t : Addr)  : entryFrame m #[(.ref t), (.int (3 : Int32))] 2 = mkF m 0 #[.val (.ref t), .val (.int (3 : Int32))] [] := by first | (simp [entryFrame, mkF, argsToLocals, Value.category]; done) | rfl
theorem str_cf_3 (l : Launch) (Z : State) (a0 : Array Value) (hw : TW a0 Z) (ws : List Cond) (t : Addr) (k : ClassId) (vs : List Value) (h0 : Heap) (n0 : Nat) (Z0 : n0 ≤ h0.size) (V : Arv Z h0 t k .byte 3 vs (.int 0)) :
    own_MF l Z MN16 jdk_52_method_15_code 2 (some .byte) ws (own_R 0 0 0 0) #[(.ref t), (.int (3 : Int32))] h0 (Q_str_cf_3 Z t k vs h0 n0) := by
  have wd := @own_wd _ _ hw
  refine MetFree.of_bodySF (plainFor_of_name pn_java_lang_StringUTF16) hisR ?_
  intro p e s m args below meth c s₁ Bd hml0 hP hK
  obtain ⟨rfl, hZ, hh⟩ := hP
  have hx := Bd.exec
  have hby := Bd.bytes
  have hml : c.maxLocals = 2 := hml0
  have hown : s.vm.findClass "java/lang/StringUTF16" = some m.cls := findClass_of_methodNamed Bd.named
  have hnm := (name_of_methodNamed Bd.named Bd.method).1
  have X0 : Stand p l e (own_R 0 0 0 0) s m #[(.ref t), (.int (3 : Int32))] below meth c s₁ [] 0 0 := Stand.of_body Bd
  have e0 : s₁.heap = h0 := by rw [← hh, Bd.state]; rfl
  have N0 := Fr.nil n0
  refine go_of (A := s₁.setTop (entryFrame m #[(.ref t), (.int (3 : Int32))] 2)) (B := s₁.setTop (mkF m 0 #[.val (.ref t), .val (.int (3 : Int32))] [])) (fun _ kk' => castTop (ef_str_cf_3 m t) kk') ?_
  refine go_of (B := (s₁.setTop (mkF m 2 #[.val (.ref t), .val (.int (3 : Int32))] [(.ref t), (.int (3 : Int32))]))) (fun _ kk => XS.iloadN X0.here hx rfl (hb hby d18_0) rfl (XS.aloadN X0.here hx rfl (hb hby d18_1) rfl rfl kk)) ?_
  obtain ⟨cl1, Ar1, q1, Sz1, Nn1, Hh1, G1⟩ := id (V)
  have ln1 := len_of Sz1 Nn1
  refine go_of (B := (s₁.setTop (mkF m 3 #[.val (.ref t), .val (.int (3 : Int32))] [(.int (3 : Int32)), (.int (3 : Int32))]))) (fun _ kk => X0.arraylength hx (by rw [e0]; exact Ar1.1) (State.isArrayOf_alike hZ.alike Ar1.2.1) (g := (mkF m 2 #[.val (.ref t), .val (.int (3 : Int32))] [(.ref t), (.int (3 : Int32))])) rfl rfl (hb hby d18_2) _ (by rw [ln1]; exact kk)) ?_
  refine go_of (B := (s₁.setTop (mkF m 8 #[.val (.ref t), .val (.int (3 : Int32))] [(.int (0 : Int32))]))) (fun _ kk => XS.isub X0.here hx rfl (hb hby d18_3) rfl (XS.bipush X0.here hx rfl (hb hby d18_4) (XS.iushr X0.here hx rfl (hb hby d18_6) rfl (XS.i2b X0.here hx rfl (hb hby d18_7) rfl kk)))) ?_
  refine go_end X0 (v := some (.int (nar .byte (0 : Int32)))) (fun h => by rw [Bd.returns] at h; cases h) Bd.notSynchronized (by decide) (by decide) (Q := (Q_str_cf_3 Z t k vs h0 n0)) ?_ (fun fs hr => retN X0 hx (t := .byte) Bd.returns (by simp) (hb hby d18_8) hr)
  unfold Q_str_cf_3
  try rw [e0]
  exact ⟨rfl, N0, rfl⟩
def Q_u_cf_3 (Z : State) (t : Addr) (k : ClassId) (vs : List Value) (h0 : Heap) (n0 : Nat) (v : Option Value) (h : Heap) (L : List Loc) : Prop := v = some (.int 1) ∧ Fr n0 L ∧ h = h0
theorem ef_u_cf_3 (m : MethodId) (t : Addr)  : entryFrame m #[(.ref t), (.int (3 : Int32))] 2 = mkF m 0 #[.val (.ref t), .val (.int (3 : Int32))] [] := by first | (simp [entryFrame, mkF, argsToLocals, Value.category]; done) | rfl
theorem u_cf_3 (l : Launch) (Z : State) (a0 : Array Value) (hw : TW a0 Z) (ws : List Cond) (t : Addr) (k : ClassId) (vs : List Value) (h0 : Heap) (n0 : Nat) (Z0 : n0 ≤ h0.size) (V : Arv Z h0 t k .byte 6 vs (.int 0)) :
    own_MF l Z MN16 jdk_52_method_15_code 2 (some .byte) ws (own_R 0 0 0 0) #[(.ref t), (.int (3 : Int32))] h0 (Q_u_cf_3 Z t k vs h0 n0) := by
  have wd := @own_wd _ _ hw
  refine MetFree.of_bodySF (plainFor_of_name pn_java_lang_StringUTF16) hisR ?_
  intro p e s m args below meth c s₁ Bd hml0 hP hK
  obtain ⟨rfl, hZ, hh⟩ := hP
  have hx := Bd.exec
  have hby := Bd.bytes
  have hml : c.maxLocals = 2 := hml0
  have hown : s.vm.findClass "java/lang/StringUTF16" = some m.cls := findClass_of_methodNamed Bd.named
  have hnm := (name_of_methodNamed Bd.named Bd.method).1
  have X0 : Stand p l e (own_R 0 0 0 0) s m #[(.ref t), (.int (3 : Int32))] below meth c s₁ [] 0 0 := Stand.of_body Bd
  have e0 : s₁.heap = h0 := by rw [← hh, Bd.state]; rfl
  have N0 := Fr.nil n0
  refine go_of (A := s₁.setTop (entryFrame m #[(.ref t), (.int (3 : Int32))] 2)) (B := s₁.setTop (mkF m 0 #[.val (.ref t), .val (.int (3 : Int32))] [])) (fun _ kk' => castTop (ef_u_cf_3 m t) kk') ?_
  refine go_of (B := (s₁.setTop (mkF m 2 #[.val (.ref t), .val (.int (3 : Int32))] [(.ref t), (.int (3 : Int32))]))) (fun _ kk => XS.iloadN X0.here hx rfl (hb hby d18_0) rfl (XS.aloadN X0.here hx rfl (hb hby d18_1) rfl rfl kk)) ?_
  obtain ⟨cl1, Ar1, q1, Sz1, Nn1, Hh1, G1⟩ := id (V)
  have ln1 := len_of Sz1 Nn1
  refine go_of (B := (s₁.setTop (mkF m 3 #[.val (.ref t), .val (.int (3 : Int32))] [(.int (6 : Int32)), (.int (3 : Int32))]))) (fun _ kk => X0.arraylength hx (by rw [e0]; exact Ar1.1) (State.isArrayOf_alike hZ.alike Ar1.2.1) (g := (mkF m 2 #[.val (.ref t), .val (.int (3 : Int32))] [(.ref t), (.int (3 : Int32))])) rfl rfl (hb hby d18_2) _ (by rw [ln1]; exact kk)) ?_
  refine go_of (B := (s₁.setTop (mkF m 8 #[.val (.ref t), .val (.int (3 : Int32))] [(.int (1 : Int32))]))) (fun _ kk => XS.isub X0.here hx rfl (hb hby d18_3) rfl (XS.bipush X0.here hx rfl (hb hby d18_4) (XS.iushr X0.here hx rfl (hb hby d18_6) rfl (XS.i2b X0.here hx rfl (hb hby d18_7) rfl kk)))) ?_
  refine go_end X0 (v := some (.int (nar .byte (1 : Int32)))) (fun h => by rw [Bd.returns] at h; cases h) Bd.notSynchronized (by decide) (by decide) (Q := (Q_u_cf_3 Z t k vs h0 n0)) ?_ (fun fs hr => retN X0 hx (t := .byte) Bd.returns (by simp) (hb hby d18_8) hr)
  unfold Q_u_cf_3
  try rw [e0]
  exact ⟨rfl, N0, rfl⟩
def Q_u_i4_3 (Z : State) (a : Addr) (s' : Addr) (c0 : Int32) (c1 : Int32) (c2 : Int32) (ks : ClassId) (gC : Int32) (u : Value) (u2 : Value) (h0 : Heap) (n0 : Nat) (v : Option Value) (h : Heap) (L : List Loc) : Prop := v = none ∧ Fr n0 L ∧ Keep h0 h [a] ∧ StrU Z h a 3 6 [c0, c1, c2]
theorem ef_u_i4_3 (m : MethodId) (a : Addr) (s' : Addr)  : entryFrame m #[(.ref a), (.ref s'), (.int (0 : Int32)), (.int (3 : Int32)), .null] 6 = mkF m 0 #[.val (.ref a), .val (.ref s'), .val (.int (0 : Int32)), .val (.int (3 : Int32)), .val .null, .unset] [] := by first | (simp [entryFrame, mkF, argsToLocals, Value.category]; done) | rfl
theorem u_i4_3 (l : Launch) (Z : State) (a0 : Array Value) (hw : TW a0 Z) (ws : List Cond) (a : Addr) (s' : Addr) (c0 : Int32) (c1 : Int32) (c2 : Int32) (ks : ClassId) (gC : Int32) (u : Value) (u2 : Value) (h0 : Heap) (n0 : Nat) (Z0 : n0 ≤ h0.size) (O : Old Z n0 h0) (SC : Sta Z Z.heap "java/lang/String" "COMPACT_STRINGS" "Z" (.int gC)) (hgC : ¬ gC = (0 : Int32)) (SU : US Z) (E : Exa Z h0 a "java/lang/String") (F : Fld Z h0 a "java/lang/String" "value" "[B" u) (F2 : Fld Z h0 a "java/lang/String" "coder" "B" u2) (g : n0 ≤ a) (Vs : Arv Z h0 s' ks .char 3 [(.int c0), (.int c1), (.int c2)] (.int 0)) (hc0 : ¬ c0 < 0 ∧ ¬ (65535 : Int32) < c0) (hc1 : ¬ c1 < 0 ∧ ¬ (65535 : Int32) < c1) (hc2 : ¬ c2 < 0 ∧ ¬ (65535 : Int32) < c2) :
    own_MF l Z MN6 jdk_42_method_149_code 6 none ws (own_R 4 2 9 57) #[(.ref a), (.ref s'), (.int (0 : Int32)), (.int (3 : Int32)), .null] h0 (Q_u_i4_3 Z a s' c0 c1 c2 ks gC u u2 h0 n0) := by
  have wd := @own_wd _ _ hw
  refine MetFree.of_bodySF (plainFor_of_name pn_java_lang_String) hisR ?_
  intro p e s m args below meth c s₁ Bd hml0 hP hK
  obtain ⟨rfl, hZ, hh⟩ := hP
  have hx := Bd.exec
  have hby := Bd.bytes
  have hml : c.maxLocals = 6 := hml0
  have hown : s.vm.findClass "java/lang/String" = some m.cls := findClass_of_methodNamed Bd.named
  have hnm := (name_of_methodNamed Bd.named Bd.method).1
  have X0 : Stand p l e (own_R 4 2 9 57) s m #[(.ref a), (.ref s'), (.int (0 : Int32)), (.int (3 : Int32)), .null] below meth c s₁ [] 0 0 := Stand.of_body Bd
  have e0 : s₁.heap = h0 := by rw [← hh, Bd.state]; rfl
  have N0 := Fr.nil n0
  have lta := own_nlt (E.lt)
  have lts := own_nlt (Vs.lt)
  refine go_of (A := s₁.setTop (entryFrame m #[(.ref a), (.ref s'), (.int (0 : Int32)), (.int (3 : Int32)), .null] 6)) (B := s₁.setTop (mkF m 0 #[.val (.ref a), .val (.ref s'), .val (.int (0 : Int32)), .val (.int (3 : Int32)), .val .null, .unset] [])) (fun _ kk' => castTop (ef_u_i4_3 m a s') kk') ?_
  refine go_of (B := (s₁.setTop (mkF m 1 #[.val (.ref a), .val (.ref s'), .val (.int (0 : Int32)), .val (.int (3 : Int32)), .val .null, .unset] [(.ref a)]))) (fun _ kk => XS.aloadN X0.here hx rfl (hb hby d3_0) rfl rfl kk) ?_
  obtain ⟨T1, X1, e1, st1⟩ := initO X0 hx hZ hown (wd 17 rfl) (wd 18 rfl) (wd 19 rfl) e0 (g := (mkF m 1 #[.val (.ref a), .val (.ref s'), .val (.int (0 : Int32)), .val (.int (3 : Int32)), .val .null, .unset] [(.ref a)])) rfl (by rw [hml]; rfl) rfl (hb hby d3_1) (by decide) (W := 0) (Nat.le_of_eq rfl) (by decide)
  refine go_of (B := (T1.setTop (mkF m 4 #[.val (.ref a), .val (.ref s'), .val (.int (0 : Int32)), .val (.int (3 : Int32)), .val .null, .unset] []))) (st1) ?_
  refine go_of (B := (T1.setTop (mkF m 27 #[.val (.ref a), .val (.ref s'), .val (.int (0 : Int32)), .val (.int (3 : Int32)), .val .null, .unset] []))) (fun _ kk => XS.iloadN X1.here hx rfl (hb hby d3_4) rfl (XS.ifYes X1.here hx rfl (pc0 := 5) (pc' := 27) rfl (hb hby d3_5) rfl ((if0 _ _).trans (feq (by decide : ¬ ((3 : Int32) = (0 : Int32)))).2) (by decide) (by decide) kk)) ?_
  obtain ⟨T2, X2, e2, st2⟩ := getS2 X1 hx hZ hown (host := "") (Or.inl (wd 47 rfl)) Via.refl e1 (SC.ext O.2) (g := (mkF m 27 #[.val (.ref a), .val (.ref s'), .val (.int (0 : Int32)), .val (.int (3 : Int32)), .val .null, .unset] [])) rfl (hb hby d3_27)
  refine go_of (B := (T2.setTop (mkF m 30 #[.val (.ref a), .val (.ref s'), .val (.int (0 : Int32)), .val (.int (3 : Int32)), .val .null, .unset] [(.int gC)]))) (st2) ?_
  refine go_of (B := (T2.setTop (mkF m 36 #[.val (.ref a), .val (.ref s'), .val (.int (0 : Int32)), .val (.int (3 : Int32)), .val .null, .unset] [(.int (3 : Int32)), (.int (0 : Int32)), (.ref s')]))) (fun _ kk => XS.ifNo X2.here hx rfl (hb hby d3_30) rfl ((if0 _ _).trans (feq hgC).1) (XS.aloadN X2.here hx rfl (hb hby d3_33) rfl rfl (XS.iloadN X2.here hx rfl (hb hby d3_34) rfl (XS.iloadN X2.here hx rfl (hb hby d3_35) rfl kk)))) ?_
  obtain ⟨_, _, ⟨T3, L3, k3, n3⟩, -, X3, ⟨Lc3, hQ3, l3, y3, z3⟩, st3⟩ := Jvm.LawKit.callS X2 hx (y := MN17) hown (mvT hZ (wd 75 rfl)) (mvT hZ (wd 76 rfl)) (mvT hZ (wd 77 rfl)) (mvT hZ (wd 78 rfl)) (by decide) (backOf (W := 0) (u_c3_3 l Z a0 hw [] s' c0 c1 c2 ks h0 n0 (by omega) O SU Vs hc0 hc1 hc2) hZ (wd 78 rfl) (wd 77 rfl) (by decide) (by decide)) (g := (mkF m 36 #[.val (.ref a), .val (.ref s'), .val (.int (0 : Int32)), .val (.int (3 : Int32)), .val .null, .unset] [(.int (3 : Int32)), (.int (0 : Int32)), (.ref s')])) rfl (by rw [hml]; rfl) (argsL := [(.ref s'), (.int (0 : Int32)), (.int (3 : Int32))]) (rest := []) (lenOf pd___CII__B rfl) rfl (Nat.le_of_eq rfl) (hb hby d3_36) (fun _ _ => ⟨rfl, e2, (by decide : 0 + 2 ≤ _), (by decide : 0 + 9 ≤ _)⟩)
  dsimp only [Pt.U, Pt.locs, Pt.cells, Pt.slots] at X3 l3 y3 z3 st3 hQ3
  subst l3 y3 z3
  obtain ⟨b3, k3, rfl, N3q, lo3, K3, H3⟩ := hQ3
  have lo3 := own_nle lo3
  have N3 := Fr.app N0 N3q
  have sz3 := K3.1
  refine go_of (B := (T3.setTop (mkF m 39 #[.val (.ref a), .val (.ref s'), .val (.int (0 : Int32)), .val (.int (3 : Int32)), .val .null, .unset] [(.ref b3)]))) (st3) ?_
  rcases H3 with ⟨hl0, hl1, hl2, V3⟩ | V3
  · have hi3 := own_nlt (V3.lt)
    refine go_of (B := (T3.setTop (mkF m 45 #[.val (.ref a), .val (.ref s'), .val (.int (0 : Int32)), .val (.int (3 : Int32)), .val .null, .val (.ref b3)] [(.int (3 : Int32)), (.ref b3), (.ref a)]))) (fun _ kk => XS.astore X3.here hx rfl (hb hby d3_39) rfl rfl rfl (XS.aloadN X3.here hx rfl (hb hby d3_41) rfl rfl (XS.aload X3.here hx rfl (hb hby d3_42) rfl rfl (XS.iloadN X3.here hx rfl (hb hby d3_44) rfl kk)))) ?_
    obtain ⟨_, _, ⟨T4, L4, k4, n4⟩, -, X4, ⟨Lc4, hQ4, l4, y4, z4⟩, st4⟩ := Jvm.LawKit.callS X3 hx (y := MN16) hown (mvT hZ (wd 82 rfl)) (mvT hZ (wd 83 rfl)) (mvT hZ (wd 77 rfl)) (mvT hZ (wd 84 rfl)) (by decide) (backOf (W := 1) (str_cf_3 l Z a0 hw [] b3 k3 _ T3.heap n0 (by omega) V3) hZ (wd 84 rfl) (wd 77 rfl) (by decide) (by decide)) (g := (mkF m 45 #[.val (.ref a), .val (.ref s'), .val (.int (0 : Int32)), .val (.int (3 : Int32)), .val .null, .val (.ref b3)] [(.int (3 : Int32)), (.ref b3), (.ref a)])) rfl (by rw [hml]; rfl) (argsL := [(.ref b3), (.int (3 : Int32))]) (rest := [(.ref a)]) (lenOf pd___BI_B rfl) rfl (Nat.le_of_eq rfl) (hb hby d3_45) (fun _ _ => ⟨rfl, rfl, (by decide : 2 + 0 ≤ _), (by decide : 9 + 0 ≤ _)⟩)
    dsimp only [Pt.U, Pt.locs, Pt.cells, Pt.slots] at X4 l4 y4 z4 st4 hQ4
    subst l4 y4 z4
    obtain ⟨rfl, N4q, e4⟩ := hQ4
    have N4 := Fr.app N3 N4q
    refine go_of (B := (T4.setTop (mkF m 48 #[.val (.ref a), .val (.ref s'), .val (.int (0 : Int32)), .val (.int (3 : Int32)), .val .null, .val (.ref b3)] [(.int (0 : Int32)), (.ref a)]))) (st4) ?_
    have cf_5 := (E.keep K3)
    have cf_6 := (F2.keep K3 nin0)
    obtain ⟨T7, h7, X7, e7, W7, st7⟩ := putFN X4 hx hZ hown (wd 27 rfl) Via.refl e4 cf_6 cf_5 (Or.inr ⟨(wd 23 rfl), rfl, hnm⟩) (wd 8 rfl) (ty := .byte) (v' := (.int (nar .byte (0 : Int32)))) (by decide) rfl (fits_nar_byte _) (g := (mkF m 48 #[.val (.ref a), .val (.ref s'), .val (.int (0 : Int32)), .val (.int (3 : Int32)), .val .null, .val (.ref b3)] [(.int (0 : Int32)), (.ref a)])) rfl rfl (hb hby d3_48)
    have sz7 := W7.size
    have Fw7 := cf_6.same W7
    have N7 := Fr.snoc X7 N4 (g : n0 ≤ a)
    refine go_of (B := (T7.setTop (mkF m 51 #[.val (.ref a), .val (.ref s'), .val (.int (0 : Int32)), .val (.int (3 : Int32)), .val .null, .val (.ref b3)] []))) (st7) ?_
    refine go_of (B := (T7.setTop (mkF m 54 #[.val (.ref a), .val (.ref s'), .val (.int (0 : Int32)), .val (.int (3 : Int32)), .val .null, .val (.ref b3)] [(.ref b3), (.ref a)]))) (fun _ kk => XS.aloadN X7.here hx rfl (hb hby d3_51) rfl rfl (XS.aload X7.here hx rfl (hb hby d3_52) rfl rfl kk)) ?_
    have cf_8 := (cf_5.wr W7)
    have cf_9 := ((F.keep K3 nin0).other W7 (Or.inr (slot_ne (Or.inr (wd 22 rfl)) (Or.inr (wd 23 rfl)) (by decide) (t := (.array .byte)) (t' := .byte) (by decide) (by decide))))
    obtain ⟨T10, h10, X10, e10, W10, st10⟩ := putF X7 hx hZ hown (host := "") (Or.inl (wd 26 rfl)) Via.refl e7 cf_9 cf_8 (Or.inr ⟨(wd 22 rfl), rfl, hnm⟩) (wd 8 rfl) (ty := (.array .byte)) (by decide) rfl rfl (g := (mkF m 54 #[.val (.ref a), .val (.ref s'), .val (.int (0 : Int32)), .val (.int (3 : Int32)), .val .null, .val (.ref b3)] [(.ref b3), (.ref a)])) rfl rfl (hb hby d3_54)
    have sz10 := W10.size
    have Fw10 := cf_9.same W10
    have N10 := Fr.snoc X10 N7 (g : n0 ≤ a)
    refine go_of (B := (T10.setTop (mkF m 57 #[.val (.ref a), .val (.ref s'), .val (.int (0 : Int32)), .val (.int (3 : Int32)), .val .null, .val (.ref b3)] []))) (st10) ?_
    have cf_11 := ((V3.other W7 (by first | omega | exact own_ne (by omega) | exact own_le (by omega))).other W10 (by first | omega | exact own_ne (by omega) | exact own_le (by omega)))
    have cf_12 := (Fw7.other W10 (Or.inr (slot_ne (Or.inr (wd 23 rfl)) (Or.inr (wd 22 rfl)) (by decide) (t := .byte) (t' := (.array .byte)) (by decide) (by decide))))
    have cf_13 := (cf_8.wr W10)
    refine go_end X10 (v := none) (fun _ => rfl) Bd.notSynchronized (by decide) (by decide) (Q := (Q_u_i4_3 Z a s' c0 c1 c2 ks gC u u2 h0 n0)) ?_ (fun fs hr => X10.returnOut hx Bd.returns (hb hby d3_57) hr)
    unfold Q_u_i4_3
    try rw [e10]
    exact ⟨rfl, N10, ((((Keep.refl h0 [a]).trans K3 all0).wr W7 (Or.inl (List.mem_of_getElem? (i := 0) rfl))).wr W10 (Or.inl (List.mem_of_getElem? (i := 0) rfl))), Or.inl ⟨b3, k3, cf_13, cf_12, Fw10, cf_11, (own_allc ⟨hc0.1, hl0⟩ (own_allc ⟨hc1.1, hl1⟩ (own_allc ⟨hc2.1, hl2⟩ (fun _ q => nomatch q))))⟩⟩
  · have hi3 := own_nlt (V3.lt)
    refine go_of (B := (T3.setTop (mkF m 45 #[.val (.ref a), .val (.ref s'), .val (.int (0 : Int32)), .val (.int (3 : Int32)), .val .null, .val (.ref b3)] [(.int (3 : Int32)), (.ref b3), (.ref a)]))) (fun _ kk => XS.astore X3.here hx rfl (hb hby d3_39) rfl rfl rfl (XS.aloadN X3.here hx rfl (hb hby d3_41) rfl rfl (XS.aload X3.here hx rfl (hb hby d3_42) rfl rfl (XS.iloadN X3.here hx rfl (hb hby d3_44) rfl kk)))) ?_
    obtain ⟨_, _, ⟨T14, L14, k14, n14⟩, -, X14, ⟨Lc14, hQ14, l14, y14, z14⟩, st14⟩ := Jvm.LawKit.callS X3 hx (y := MN16) hown (mvT hZ (wd 82 rfl)) (mvT hZ (wd 83 rfl)) (mvT hZ (wd 77 rfl)) (mvT hZ (wd 84 rfl)) (by decide) (backOf (W := 1) (u_cf_3 l Z a0 hw [] b3 k3 _ T3.heap n0 (by omega) V3) hZ (wd 84 rfl) (wd 77 rfl) (by decide) (by decide)) (g := (mkF m 45 #[.val (.ref a), .val (.ref s'), .val (.int (0 : Int32)), .val (.int (3 : Int32)), .val .null, .val (.ref b3)] [(.int (3 : Int32)), (.ref b3), (.ref a)])) rfl (by rw [hml]; rfl) (argsL := [(.ref b3), (.int (3 : Int32))]) (rest := [(.ref a)]) (lenOf pd___BI_B rfl) rfl (Nat.le_of_eq rfl) (hb hby d3_45) (fun _ _ => ⟨rfl, rfl, (by decide : 2 + 0 ≤ _), (by decide : 9 + 0 ≤ _)⟩)
    dsimp only [Pt.U, Pt.locs, Pt.cells, Pt.slots] at X14 l14 y14 z14 st14 hQ14
    subst l14 y14 z14
    obtain ⟨rfl, N14q, e14⟩ := hQ14
    have N14 := Fr.app N3 N14q
    refine go_of (B := (T14.setTop (mkF m 48 #[.val (.ref a), .val (.ref s'), .val (.int (0 : Int32)), .val (.int (3 : Int32)), .val .null, .val (.ref b3)] [(.int (1 : Int32)), (.ref a)]))) (st14) ?_
    have cf_15 := (E.keep K3)
    have cf_16 := (F2.keep K3 nin0)
    obtain ⟨T17, h17, X17, e17, W17, st17⟩ := putFN X14 hx hZ hown (wd 27 rfl) Via.refl e14 cf_16 cf_15 (Or.inr ⟨(wd 23 rfl), rfl, hnm⟩) (wd 8 rfl) (ty := .byte) (v' := (.int (nar .byte (1 : Int32)))) (by decide) rfl (fits_nar_byte _) (g := (mkF m 48 #[.val (.ref a), .val (.ref s'), .val (.int (0 : Int32)), .val (.int (3 : Int32)), .val .null, .val (.ref b3)] [(.int (1 : Int32)), (.ref a)])) rfl rfl (hb hby d3_48)
    have sz17 := W17.size
    have Fw17 := cf_16.same W17
    have N17 := Fr.snoc X17 N14 (g : n0 ≤ a)
    refine go_of (B := (T17.setTop (mkF m 51 #[.val (.ref a), .val (.ref s'), .val (.int (0 : Int32)), .val (.int (3 : Int32)), .val .null, .val (.ref b3)] []))) (st17) ?_
    refine go_of (B := (T17.setTop (mkF m 54 #[.val (.ref a), .val (.ref s'), .val (.int (0 : Int32)), .val (.int (3 : Int32)), .val .null, .val (.ref b3)] [(.ref b3), (.ref a)]))) (fun _ kk => XS.aloadN X17.here hx rfl (hb hby d3_51) rfl rfl (XS.aload X17.here hx rfl (hb hby d3_52) rfl rfl kk)) ?_
    have cf_18 := (cf_15.wr W17)
    have cf_19 := ((F.keep K3 nin0).other W17 (Or.inr (slot_ne (Or.inr (wd 22 rfl)) (Or.inr (wd 23 rfl)) (by decide) (t := (.array .byte)) (t' := .byte) (by decide) (by decide))))
    obtain ⟨T20, h20, X20, e20, W20, st20⟩ := putF X17 hx hZ hown (host := "") (Or.inl (wd 26 rfl)) Via.refl e17 cf_19 cf_18 (Or.inr ⟨(wd 22 rfl), rfl, hnm⟩) (wd 8 rfl) (ty := (.array .byte)) (by decide) rfl rfl (g := (mkF m 54 #[.val (.ref a), .val (.ref s'), .val (.int (0 : Int32)), .val (.int (3 : Int32)), .val .null, .val (.ref b3)] [(.ref b3), (.ref a)])) rfl rfl (hb hby d3_54)
    have sz20 := W20.size
    have Fw20 := cf_19.same W20
    have N20 := Fr.snoc X20 N17 (g : n0 ≤ a)
    refine go_of (B := (T20.setTop (mkF m 57 #[.val (.ref a), .val (.ref s'), .val (.int (0 : Int32)), .val (.int (3 : Int32)), .val .null, .val (.ref b3)] []))) (st20) ?_
    have cf_21 := ((V3.other W17 (by first | omega | exact own_ne (by omega) | exact own_le (by omega))).other W20 (by first | omega | exact own_ne (by omega) | exact own_le (by omega)))
    have cf_22 := (Fw17.other W20 (Or.inr (slot_ne (Or.inr (wd 23 rfl)) (Or.inr (wd 22 rfl)) (by decide) (t := .byte) (t' := (.array .byte)) (by decide) (by decide))))
    have cf_23 := (cf_18.wr W20)
    refine go_end X20 (v := none) (fun _ => rfl) Bd.notSynchronized (by decide) (by decide) (Q := (Q_u_i4_3 Z a s' c0 c1 c2 ks gC u u2 h0 n0)) ?_ (fun fs hr => X20.returnOut hx Bd.returns (hb hby d3_57) hr)
    unfold Q_u_i4_3
    try rw [e20]
    exact ⟨rfl, N20, ((((Keep.refl h0 [a]).trans K3 all0).wr W17 (Or.inl (List.mem_of_getElem? (i := 0) rfl))).wr W20 (Or.inl (List.mem_of_getElem? (i := 0) rfl))), Or.inr ⟨b3, k3, cf_23, cf_22, Fw20, cf_21, (own_allc hc0 (own_allc hc1 (own_allc hc2 (fun _ q => nomatch q))))⟩⟩
def Q_u_i1_3 (Z : State) (a : Addr) (s' : Addr) (c0 : Int32) (c1 : Int32) (c2 : Int32) (ks : ClassId) (gC : Int32) (u : Value) (u2 : Value) (h0 : Heap) (n0 : Nat) (v : Option Value) (h : Heap) (L : List Loc) : Prop := v = none ∧ Fr n0 L ∧ Keep h0 h [a] ∧ StrU Z h a 3 6 [c0, c1, c2]
theorem ef_u_i1_3 (m : MethodId) (a : Addr) (s' : Addr)  : entryFrame m #[(.ref a), (.ref s')] 2 = mkF m 0 #[.val (.ref a), .val (.ref s')] [] := by first | (simp [entryFrame, mkF, argsToLocals, Value.category]; done) | rfl
theorem u_i1_3 (l : Launch) (Z : State) (a0 : Array Value) (hw : TW a0 Z) (ws : List Cond) (a : Addr) (s' : Addr) (c0 : Int32) (c1 : Int32) (c2 : Int32) (ks : ClassId) (gC : Int32) (u : Value) (u2 : Value) (h0 : Heap) (n0 : Nat) (Z0 : n0 ≤ h0.size) (O : Old Z n0 h0) (SC : Sta Z Z.heap "java/lang/String" "COMPACT_STRINGS" "Z" (.int gC)) (hgC : ¬ gC = (0 : Int32)) (SU : US Z) (E : Exa Z h0 a "java/lang/String") (F : Fld Z h0 a "java/lang/String" "value" "[B" u) (F2 : Fld Z h0 a "java/lang/String" "coder" "B" u2) (g : n0 ≤ a) (Vs : Arv Z h0 s' ks .char 3 [(.int c0), (.int c1), (.int c2)] (.int 0)) (hc0 : ¬ c0 < 0 ∧ ¬ (65535 : Int32) < c0) (hc1 : ¬ c1 < 0 ∧ ¬ (65535 : Int32) < c1) (hc2 : ¬ c2 < 0 ∧ ¬ (65535 : Int32) < c2) :
    own_MF l Z MN5 jdk_42_method_3_code 2 none ws (own_R 5 2 9 74) #[(.ref a), (.ref s')] h0 (Q_u_i1_3 Z a s' c0 c1 c2 ks gC u u2 h0 n0) := by
  have wd := @own_wd _ _ hw
  refine MetFree.of_bodySF (plainFor_of_name pn_java_lang_String) hisR ?_
  intro p e s m args below meth c s₁ Bd hml0 hP hK
  obtain ⟨rfl, hZ, hh⟩ := hP
  have hx := Bd.exec
  have hby := Bd.bytes
  have hml : c.maxLocals = 2 := hml0
  have hown : s.vm.findClass "java/lang/String" = some m.cls := findClass_of_methodNamed Bd.named
  have hnm := (name_of_methodNamed Bd.named Bd.method).1
  have X0 : Stand p l e (own_R 5 2 9 74) s m #[(.ref a), (.ref s')] below meth c s₁ [] 0 0 := Stand.of_body Bd
  have e0 : s₁.heap = h0 := by rw [← hh, Bd.state]; rfl
  have N0 := Fr.nil n0
  have lta := own_nlt (E.lt)
  have lts := own_nlt (Vs.lt)
  refine go_of (A := s₁.setTop (entryFrame m #[(.ref a), (.ref s')] 2)) (B := s₁.setTop (mkF m 0 #[.val (.ref a), .val (.ref s')] [])) (fun _ kk' => castTop (ef_u_i1_3 m a s') kk') ?_
  refine go_of (B := (s₁.setTop (mkF m 4 #[.val (.ref a), .val (.ref s')] [(.ref s'), (.int (0 : Int32)), (.ref s'), (.ref a)]))) (fun _ kk => XS.aloadN X0.here hx rfl (hb hby d2_0) rfl rfl (XS.aloadN X0.here hx rfl (hb hby d2_1) rfl rfl (XS.iconst X0.here hx rfl (hb hby d2_2) (XS.aloadN X0.here hx rfl (hb hby d2_3) rfl rfl kk)))) ?_
  obtain ⟨cl1, Ar1, q1, Sz1, Nn1, Hh1, G1⟩ := id (Vs)
  have ln1 := len_of Sz1 Nn1
  refine go_of (B := (s₁.setTop (mkF m 5 #[.val (.ref a), .val (.ref s')] [(.int (3 : Int32)), (.int (0 : Int32)), (.ref s'), (.ref a)]))) (fun _ kk => X0.arraylength hx (by rw [e0]; exact Ar1.1) (State.isArrayOf_alike hZ.alike Ar1.2.1) (g := (mkF m 4 #[.val (.ref a), .val (.ref s')] [(.ref s'), (.int (0 : Int32)), (.ref s'), (.ref a)])) rfl rfl (hb hby d2_4) _ (by rw [ln1]; exact kk)) ?_
  refine go_of (B := (s₁.setTop (mkF m 6 #[.val (.ref a), .val (.ref s')] [.null, (.int (3 : Int32)), (.int (0 : Int32)), (.ref s'), (.ref a)]))) (fun _ kk => XS.aconstNull X0.here hx rfl (hb hby d2_5) kk) ?_
  obtain ⟨_, _, ⟨T2, L2, k2, n2⟩, -, X2, ⟨Lc2, hQ2, l2, y2, z2⟩, st2⟩ := X0.specialBack hx (y := MN6) rfl hown (mvT hZ (wd 13 rfl)) (mvT hZ (wd 14 rfl)) (mvT hZ (wd 16 rfl)) (by decide) (backOf (W := 0) (u_i4_3 l Z a0 hw [] a s' c0 c1 c2 ks gC u u2 h0 n0 (by omega) O SC hgC SU E F F2 g Vs hc0 hc1 hc2) hZ (wd 16 rfl) (wd 9 rfl) (by decide) (by decide)) (g := (mkF m 6 #[.val (.ref a), .val (.ref s')] [.null, (.int (3 : Int32)), (.int (0 : Int32)), (.ref s'), (.ref a)])) rfl (by rw [hml]; rfl) (Steps.refl _) (a := a) (argsL := [(.ref s'), (.int (0 : Int32)), (.int (3 : Int32)), .null]) (rest := []) (lenOf pd___CIILjava_lang_Void__V rfl) rfl (Nat.le_of_eq rfl) (hb hby d2_6) (fun _ _ => ⟨rfl, e0, (by decide : 0 + 2 ≤ _), (by decide : 0 + 9 ≤ _)⟩)
  dsimp only [Pt.U, Pt.locs, Pt.cells, Pt.slots] at X2 l2 y2 z2 st2 hQ2
  subst l2 y2 z2
  obtain ⟨rfl, N2q, K2, S2⟩ := hQ2
  have N2 := Fr.app N0 N2q
  have sz2 := K2.1
  refine go_tr (B := (T2.setTop (mkF m 9 #[.val (.ref a), .val (.ref s')] []))) (st2) ?_
  refine go_end X2 (v := none) (fun _ => rfl) Bd.notSynchronized (by decide) (by decide) (Q := (Q_u_i1_3 Z a s' c0 c1 c2 ks gC u u2 h0 n0)) ?_ (fun fs hr => X2.returnOut hx Bd.returns (hb hby d2_9) hr)
  unfold Q_u_i1_3
  exact ⟨rfl, N2, ((Keep.refl h0 [a]).trans K2 (allS (Or.inl (List.mem_of_getElem? (i := 0) rfl)) all0)), S2⟩
def Q_u_c5_4 (Z : State) (s' : Addr) (d : Addr) (c0 : Int32) (c1 : Int32) (c2 : Int32) (c3 : Int32) (ks : ClassId) (kd : ClassId) (h0 : Heap) (n0 : Nat) (v : Option Value) (h : Heap) (L : List Loc) : Prop := ∃ r : Int32, v = some (.int r) ∧ Fr n0 L ∧ Keep h0 h [d] ∧ ((r = 4 ∧ ¬ (255 : Int32) < c0 ∧ ¬ (255 : Int32) < c1 ∧ ¬ (255 : Int32) < c2 ∧ ¬ (255 : Int32) < c3 ∧ Arv Z h d kd .byte 4 [(.int (own_b8 c0)), (.int (own_b8 c1)), (.int (own_b8 c2)), (.int (own_b8 c3))] (.int 0)) ∨ (r = 0 ∧ (255 : Int32) < c0) ∨ (r = 1 ∧ (255 : Int32) < c1) ∨ (r = 2 ∧ (255 : Int32) < c2) ∨ (r = 3 ∧ (255 : Int32) < c3))
theorem ef_u_c5_4 (m : MethodId) (s' : Addr) (d : Addr)  : entryFrame m #[(.ref s'), (.int (0 : Int32)), (.ref d), (.int (0 : Int32)), (.int (4 : Int32))] 7 = mkF m 0 #[.val (.ref s'), .val (.int (0 : Int32)), .val (.ref d), .val (.int (0 : Int32)), .val (.int (4 : Int32)), .unset, .unset] [] := by first | (simp [entryFrame, mkF, argsToLocals, Value.category]; done) | rfl
theorem u_c5_4 (l : Launch) (Z : State) (a0 : Array Value) (hw : TW a0 Z) (ws : List Cond) (s' : Addr) (d : Addr) (c0 : Int32) (c1 : Int32) (c2 : Int32) (c3 : Int32) (ks : ClassId) (kd : ClassId) (h0 : Heap) (n0 : Nat) (Z0 : n0 ≤ h0.size) (Vs : Arv Z h0 s' ks .char 4 [(.int c0), (.int c1), (.int c2), (.int c3)] (.int 0)) (Vd : Arv Z h0 d kd .byte 4 [(.int 0), (.int 0), (.int 0), (.int 0)] (.int 0)) (nsd : s' ≠ d) (g : n0 ≤ d) :
    own_MF l Z MN18 jdk_52_method_21_code 7 (some .int) ws (own_R 0 0 0 0) #[(.ref s'), (.int (0 : Int32)), (.ref d), (.int (0 : Int32)), (.int (4 : Int32))] h0 (Q_u_c5_4 Z s' d c0 c1 c2 c3 ks kd h0 n0) := by
  have wd := @own_wd _ _ hw
  refine MetFree.of_bodySF (plainFor_of_name pn_java_lang_StringUTF16) hisR ?_
  intro p e s m args below meth c s₁ Bd hml0 hP hK
  obtain ⟨rfl, hZ, hh⟩ := hP
  have hx := Bd.exec
  have hby := Bd.bytes
  have hml : c.maxLocals = 7 := hml0
  have hown : s.vm.findClass "java/lang/StringUTF16" = some m.cls := findClass_of_methodNamed Bd.named
  have hnm := (name_of_methodNamed Bd.named Bd.method).1
  have X0 : Stand p l e (own_R 0 0 0 0) s m #[(.ref s'), (.int (0 : Int32)), (.ref d), (.int (0 : Int32)), (.int (4 : Int32))] below meth c s₁ [] 0 0 := Stand.of_body Bd
  have e0 : s₁.heap = h0 := by rw [← hh, Bd.state]; rfl
  have N0 := Fr.nil n0
  have lts := own_nlt (Vs.lt)
  have ltd := own_nlt (Vd.lt)
  refine go_of (A := s₁.setTop (entryFrame m #[(.ref s'), (.int (0 : Int32)), (.ref d), (.int (0 : Int32)), (.int (4 : Int32))] 7)) (B := s₁.setTop (mkF m 0 #[.val (.ref s'), .val (.int (0 : Int32)), .val (.ref d), .val (.int (0 : Int32)), .val (.int (4 : Int32)), .unset, .unset] [])) (fun _ kk' => castTop (ef_u_c5_4 m s' d) kk') ?_
  refine go_of (B := (s₁.setTop (mkF m 11 #[.val (.ref s'), .val (.int (0 : Int32)), .val (.ref d), .val (.int (0 : Int32)), .val (.int (4 : Int32)), .val (.int (0 : Int32)), .unset] [(.ref s')]))) (fun _ kk => XS.iconst X0.here hx rfl (hb hby d17_0) (XS.istore X0.here hx rfl (hb hby d17_1) rfl rfl (XS.iload X0.here hx rfl (hb hby d17_3) rfl (XS.iload X0.here hx rfl (hb hby d17_5) rfl (XS.icmpNo X0.here hx rfl (hb hby d17_7) rfl (tlt (by decide : (0 : Int32) < (4 : Int32))).2.1 (XS.aloadN X0.here hx rfl (hb hby d17_10) rfl rfl kk)))))) ?_
  refine go_of (B := (s₁.setTop (mkF m 12 #[.val (.ref s'), .val (.int (0 : Int32)), .val (.ref d), .val (.int (0 : Int32)), .val (.int (4 : Int32)), .val (.int (0 : Int32)), .unset] [(.int (0 : Int32)), (.ref s')]))) (fun _ kk => XS.iloadN X0.here hx rfl (hb hby d17_11) rfl kk) ?_
  obtain ⟨cl1, Ar1, q1, Sz1, Nn1, Hh1, G1⟩ := id (Vs)
  refine go_of (B := (s₁.setTop (mkF m 20 #[.val (.ref s'), .val (.int (0 : Int32)), .val (.ref d), .val (.int (0 : Int32)), .val (.int (4 : Int32)), .val (.int (0 : Int32)), .val (.int c0)] [(.int (255 : Int32)), (.int c0)]))) (fun _ kk => X0.caload hx (j := (0 : Int32)) (v := (.int c0)) (by rw [e0]; exact Ar1.1) (State.isArrayOf_alike hZ.alike Ar1.2.1) Ar1.2.2 (inb_of Sz1 ⟨by decide, by decide⟩) (Hh1.at (inb_of Sz1 ⟨by decide, by decide⟩) rfl) (g := (mkF m 12 #[.val (.ref s'), .val (.int (0 : Int32)), .val (.ref d), .val (.int (0 : Int32)), .val (.int (4 : Int32)), .val (.int (0 : Int32)), .unset] [(.int (0 : Int32)), (.ref s')])) rfl rfl (hb hby d17_12) _ (XS.istore X0.here hx rfl (hb hby d17_13) rfl rfl (XS.iload X0.here hx rfl (hb hby d17_15) rfl (XS.sipush X0.here hx rfl (hb hby d17_17) kk)))) ?_
  by_cases hcc2 : (255 : Int32) < c0
  · refine go_of (B := (s₁.setTop (mkF m 25 #[.val (.ref s'), .val (.int (0 : Int32)), .val (.ref d), .val (.int (0 : Int32)), .val (.int (4 : Int32)), .val (.int (0 : Int32)), .val (.int c0)] [(.int (0 : Int32))]))) (fun _ kk => XS.icmpNo X0.here hx rfl (hb hby d17_20) rfl (tlt hcc2).2.2.2 (XS.iload X0.here hx rfl (hb hby d17_23) rfl kk)) ?_
    refine go_end X0 (v := some (.int (0 : Int32))) (fun h => by rw [Bd.returns] at h; cases h) Bd.notSynchronized (by decide) (by decide) (Q := (Q_u_c5_4 Z s' d c0 c1 c2 c3 ks kd h0 n0)) ?_ (fun fs hr => own_retI X0 hx Bd.returns (hb hby d17_25) hr)
    unfold Q_u_c5_4
    try rw [e0]
    exact ⟨_, rfl, N0, (Keep.refl h0 [d]), Or.inr (Or.inl ⟨rfl, hcc2⟩)⟩
  · refine go_of (B := (s₁.setTop (mkF m 31 #[.val (.ref s'), .val (.int (0 : Int32)), .val (.ref d), .val (.int (0 : Int32)), .val (.int (4 : Int32)), .val (.int (0 : Int32)), .val (.int c0)] [(.int (c0.toInt8.toInt32)), (.int (0 : Int32)), (.ref d)]))) (fun _ kk => XS.icmpYes X0.here hx rfl (pc0 := 20) (pc' := 26) rfl (hb hby d17_20) rfl (flt hcc2).2.2.2 (by decide) (by decide) (XS.aloadN X0.here hx rfl (hb hby d17_26) rfl rfl (XS.iloadN X0.here hx rfl (hb hby d17_27) rfl (XS.iload X0.here hx rfl (hb hby d17_28) rfl (XS.i2b X0.here hx rfl (hb hby d17_30) rfl kk))))) ?_
    obtain ⟨cl3, Ar3, q3, Sz3, Nn3, Hh3, G3⟩ := id (Vd)
    obtain ⟨T4, h4, X4, e4, W4, st4⟩ := stB X0 hx hZ e0 Ar3 (j := (0 : Int32)) (inb_of Sz3 ⟨by decide, by decide⟩) (g := (mkF m 31 #[.val (.ref s'), .val (.int (0 : Int32)), .val (.ref d), .val (.int (0 : Int32)), .val (.int (4 : Int32)), .val (.int (0 : Int32)), .val (.int c0)] [(.int (c0.toInt8.toInt32)), (.int (0 : Int32)), (.ref d)])) rfl rfl (hb hby d17_31)
    have sz4 := W4.size
    have N4 := Fr.snoc X4 N0 (g : n0 ≤ d)
    have V4 : Arv Z h4 d kd .byte (4 : Int32) [(.int ((c0.toInt8.toInt32).toInt8.toInt32)), (.int (0 : Int32)), (.int (0 : Int32)), (.int (0 : Int32))] (.int (0 : Int32)) := Arv.set Ar3 q3 Sz3 Nn3 Hh3 G3 (fits_nar_byte _) W4 0 rfl (Nat.le_of_ble_eq_true rfl)
    rw [own_bb] at V4
    refine go_of (B := (T4.setTop (mkF m 32 #[.val (.ref s'), .val (.int (0 : Int32)), .val (.ref d), .val (.int (0 : Int32)), .val (.int (4 : Int32)), .val (.int (0 : Int32)), .val (.int c0)] []))) (st4) ?_
    refine go_of (B := (T4.setTop (mkF m 7 #[.val (.ref s'), .val (.int (1 : Int32)), .val (.ref d), .val (.int (1 : Int32)), .val (.int (4 : Int32)), .val (.int (1 : Int32)), .val (.int c0)] [(.int (4 : Int32)), (.int (1 : Int32))]))) (fun _ kk => XS.iinc X4.here hx rfl (hb hby d17_32) rfl rfl (XS.iinc X4.here hx rfl (hb hby d17_35) rfl rfl (XS.iinc X4.here hx rfl (hb hby d17_38) rfl rfl (XS.goto X4.here hx rfl (pc0 := 41) (pc' := 3) rfl (hb hby d17_41) (by decide) (by decide) (XS.iload X4.here hx rfl (hb hby d17_3) rfl (XS.iload X4.here hx rfl (hb hby d17_5) rfl kk)))))) ?_
    refine go_of (B := (T4.setTop (mkF m 12 #[.val (.ref s'), .val (.int (1 : Int32)), .val (.ref d), .val (.int (1 : Int32)), .val (.int (4 : Int32)), .val (.int (1 : Int32)), .val (.int c0)] [(.int (1 : Int32)), (.ref s')]))) (fun _ kk => XS.icmpNo X4.here hx rfl (hb hby d17_7) rfl (tlt (by decide : (1 : Int32) < (4 : Int32))).2.1 (XS.aloadN X4.here hx rfl (hb hby d17_10) rfl rfl (XS.iloadN X4.here hx rfl (hb hby d17_11) rfl kk))) ?_
    have cf_5 := (Vs.other W4 (by first | omega | exact own_ne (by omega) | exact own_le (by omega)))
    obtain ⟨cl6, Ar6, q6, Sz6, Nn6, Hh6, G6⟩ := id (cf_5)
    refine go_of (B := (T4.setTop (mkF m 20 #[.val (.ref s'), .val (.int (1 : Int32)), .val (.ref d), .val (.int (1 : Int32)), .val (.int (4 : Int32)), .val (.int (1 : Int32)), .val (.int c1)] [(.int (255 : Int32)), (.int c1)]))) (fun _ kk => X4.caload hx (j := (1 : Int32)) (v := (.int c1)) (by rw [e4]; exact Ar6.1) (State.isArrayOf_alike hZ.alike Ar6.2.1) Ar6.2.2 (inb_of Sz6 ⟨by decide, by decide⟩) (Hh6.at (inb_of Sz6 ⟨by decide, by decide⟩) rfl) (g := (mkF m 12 #[.val (.ref s'), .val (.int (1 : Int32)), .val (.ref d), .val (.int (1 : Int32)), .val (.int (4 : Int32)), .val (.int (1 : Int32)), .val (.int c0)] [(.int (1 : Int32)), (.ref s')])) rfl rfl (hb hby d17_12) _ (XS.istore X4.here hx rfl (hb hby d17_13) rfl rfl (XS.iload X4.here hx rfl (hb hby d17_15) rfl (XS.sipush X4.here hx rfl (hb hby d17_17) kk)))) ?_
    by_cases hcc7 : (255 : Int32) < c1
    · refine go_of (B := (T4.setTop (mkF m 25 #[.val (.ref s'), .val (.int (1 : Int32)), .val (.ref d), .val (.int (1 : Int32)), .val (.int (4 : Int32)), .val (.int (1 : Int32)), .val (.int c1)] [(.int (1 : Int32))]))) (fun _ kk => XS.icmpNo X4.here hx rfl (hb hby d17_20) rfl (tlt hcc7).2.2.2 (XS.iload X4.here hx rfl (hb hby d17_23) rfl kk)) ?_
      refine go_end X4 (v := some (.int (1 : Int32))) (fun h => by rw [Bd.returns] at h; cases h) Bd.notSynchronized (by decide) (by decide) (Q := (Q_u_c5_4 Z s' d c0 c1 c2 c3 ks kd h0 n0)) ?_ (fun fs hr => own_retI X4 hx Bd.returns (hb hby d17_25) hr)
      unfold Q_u_c5_4
      try rw [e4]
      exact ⟨_, rfl, N4, ((Keep.refl h0 [d]).wr W4 (Or.inl (List.mem_of_getElem? (i := 0) rfl))), Or.inr (Or.inr (Or.inl ⟨rfl, hcc7⟩))⟩
    · refine go_of (B := (T4.setTop (mkF m 31 #[.val (.ref s'), .val (.int (1 : Int32)), .val (.ref d), .val (.int (1 : Int32)), .val (.int (4 : Int32)), .val (.int (1 : Int32)), .val (.int c1)] [(.int (c1.toInt8.toInt32)), (.int (1 : Int32)), (.ref d)]))) (fun _ kk => XS.icmpYes X4.here hx rfl (pc0 := 20) (pc' := 26) rfl (hb hby d17_20) rfl (flt hcc7).2.2.2 (by decide) (by decide) (XS.aloadN X4.here hx rfl (hb hby d17_26) rfl rfl (XS.iloadN X4.here hx rfl (hb hby d17_27) rfl (XS.iload X4.here hx rfl (hb hby d17_28) rfl (XS.i2b X4.here hx rfl (hb hby d17_30) rfl kk))))) ?_
      obtain ⟨cl8, Ar8, q8, Sz8, Nn8, Hh8, G8⟩ := id (V4)
      obtain ⟨T9, h9, X9, e9, W9, st9⟩ := stB X4 hx hZ e4 Ar8 (j := (1 : Int32)) (inb_of Sz8 ⟨by decide, by decide⟩) (g := (mkF m 31 #[.val (.ref s'), .val (.int (1 : Int32)), .val (.ref d), .val (.int (1 : Int32)), .val (.int (4 : Int32)), .val (.int (1 : Int32)), .val (.int c1)] [(.int (c1.toInt8.toInt32)), (.int (1 : Int32)), (.ref d)])) rfl rfl (hb hby d17_31)
      have sz9 := W9.size
      have N9 := Fr.snoc X9 N4 (g : n0 ≤ d)
      have V9 : Arv Z h9 d kd .byte (4 : Int32) [(.int (c0.toInt8.toInt32)), (.int ((c1.toInt8.toInt32).toInt8.toInt32)), (.int (0 : Int32)), (.int (0 : Int32))] (.int (0 : Int32)) := Arv.set Ar8 q8 Sz8 Nn8 Hh8 G8 (fits_nar_byte _) W9 1 rfl (Nat.le_of_ble_eq_true rfl)
      rw [own_bb] at V9
      refine go_of (B := (T9.setTop (mkF m 32 #[.val (.ref s'), .val (.int (1 : Int32)), .val (.ref d), .val (.int (1 : Int32)), .val (.int (4 : Int32)), .val (.int (1 : Int32)), .val (.int c1)] []))) (st9) ?_
      refine go_of (B := (T9.setTop (mkF m 7 #[.val (.ref s'), .val (.int (2 : Int32)), .val (.ref d), .val (.int (2 : Int32)), .val (.int (4 : Int32)), .val (.int (2 : Int32)), .val (.int c1)] [(.int (4 : Int32)), (.int (2 : Int32))]))) (fun _ kk => XS.iinc X9.here hx rfl (hb hby d17_32) rfl rfl (XS.iinc X9.here hx rfl (hb hby d17_35) rfl rfl (XS.iinc X9.here hx rfl (hb hby d17_38) rfl rfl (XS.goto X9.here hx rfl (pc0 := 41) (pc' := 3) rfl (hb hby d17_41) (by decide) (by decide) (XS.iload X9.here hx rfl (hb hby d17_3) rfl (XS.iload X9.here hx rfl (hb hby d17_5) rfl kk)))))) ?_
      refine go_of (B := (T9.setTop (mkF m 12 #[.val (.ref s'), .val (.int (2 : Int32)), .val (.ref d), .val (.int (2 : Int32)), .val (.int (4 : Int32)), .val (.int (2 : Int32)), .val (.int c1)] [(.int (2 : Int32)), (.ref s')]))) (fun _ kk => XS.icmpNo X9.here hx rfl (hb hby d17_7) rfl (tlt (by decide : (2 : Int32) < (4 : Int32))).2.1 (XS.aloadN X9.here hx rfl (hb hby d17_10) rfl rfl (XS.iloadN X9.here hx rfl (hb hby d17_11) rfl kk))) ?_
      have cf_10 := (cf_5.other W9 (by first | omega | exact own_ne (by omega) | exact own_le (by omega)))
      obtain ⟨cl11, Ar11, q11, Sz11, Nn11, Hh11, G11⟩ := id (cf_10)
      refine go_of (B := (T9.setTop (mkF m 20 #[.val (.ref s'), .val (.int (2 : Int32)), .val (.ref d), .val (.int (2 : Int32)), .val (.int (4 : Int32)), .val (.int (2 : Int32)), .val (.int c2)] [(.int (255 : Int32)), (.int c2)]))) (fun _ kk => X9.caload hx (j := (2 : Int32)) (v := (.int c2)) (by rw [e9]; exact Ar11.1) (State.isArrayOf_alike hZ.alike Ar11.2.1) Ar11.2.2 (inb_of Sz11 ⟨by decide, by decide⟩) (Hh11.at (inb_of Sz11 ⟨by decide, by decide⟩) rfl) (g := (mkF m 12 #[.val (.ref s'), .val (.int (2 : Int32)), .val (.ref d), .val (.int (2 : Int32)), .val (.int (4 : Int32)), .val (.int (2 : Int32)), .val (.int c1)] [(.int (2 : Int32)), (.ref s')])) rfl rfl (hb hby d17_12) _ (XS.istore X9.here hx rfl (hb hby d17_13) rfl rfl (XS.iload X9.here hx rfl (hb hby d17_15) rfl (XS.sipush X9.here hx rfl (hb hby d17_17) kk)))) ?_
      by_cases hcc12 : (255 : Int32) < c2
      · refine go_of (B := (T9.setTop (mkF m 25 #[.val (.ref s'), .val (.int (2 : Int32)), .val (.ref d), .val (.int (2 : Int32)), .val (.int (4 : Int32)), .val (.int (2 : Int32)), .val (.int c2)] [(.int (2 : Int32))]))) (fun _ kk => XS.icmpNo X9.here hx rfl (hb hby d17_20) rfl (tlt hcc12).2.2.2 (XS.iload X9.here hx rfl (hb hby d17_23) rfl kk)) ?_
        refine go_end X9 (v := some (.int (2 : Int32))) (fun h => by rw [Bd.returns] at h; cases h) Bd.notSynchronized (by decide) (by decide) (Q := (Q_u_c5_4 Z s' d c0 c1 c2 c3 ks kd h0 n0)) ?_ (fun fs hr => own_retI X9 hx Bd.returns (hb hby d17_25) hr)
        unfold Q_u_c5_4
        try rw [e9]
        exact ⟨_, rfl, N9, (((Keep.refl h0 [d]).wr W4 (Or.inl (List.mem_of_getElem? (i := 0) rfl))).wr W9 (Or.inl (List.mem_of_getElem? (i := 0) rfl))), Or.inr (Or.inr (Or.inr (Or.inl ⟨rfl, hcc12⟩)))⟩
      · refine go_of (B := (T9.setTop (mkF m 31 #[.val (.ref s'), .val (.int (2 : Int32)), .val (.ref d), .val (.int (2 : Int32)), .val (.int (4 : Int32)), .val (.int (2 : Int32)), .val (.int c2)] [(.int (c2.toInt8.toInt32)), (.int (2 : Int32)), (.ref d)]))) (fun _ kk => XS.icmpYes X9.here hx rfl (pc0 := 20) (pc' := 26) rfl (hb hby d17_20) rfl (flt hcc12).2.2.2 (by decide) (by decide) (XS.aloadN X9.here hx rfl (hb hby d17_26) rfl rfl (XS.iloadN X9.here hx rfl (hb hby d17_27) rfl (XS.iload X9.here hx rfl (hb hby d17_28) rfl (XS.i2b X9.here hx rfl (hb hby d17_30) rfl kk))))) ?_
        obtain ⟨cl13, Ar13, q13, Sz13, Nn13, Hh13, G13⟩ := id (V9)
        obtain ⟨T14, h14, X14, e14, W14, st14⟩ := stB X9 hx hZ e9 Ar13 (j := (2 : Int32)) (inb_of Sz13 ⟨by decide, by decide⟩) (g := (mkF m 31 #[.val (.ref s'), .val (.int (2 : Int32)), .val (.ref d), .val (.int (2 : Int32)), .val (.int (4 : Int32)), .val (.int (2 : Int32)), .val (.int c2)] [(.int (c2.toInt8.toInt32)), (.int (2 : Int32)), (.ref d)])) rfl rfl (hb hby d17_31)
        have sz14 := W14.size
        have N14 := Fr.snoc X14 N9 (g : n0 ≤ d)
        have V14 : Arv Z h14 d kd .byte (4 : Int32) [(.int (c0.toInt8.toInt32)), (.int (c1.toInt8.toInt32)), (.int ((c2.toInt8.toInt32).toInt8.toInt32)), (.int (0 : Int32))] (.int (0 : Int32)) := Arv.set Ar13 q13 Sz13 Nn13 Hh13 G13 (fits_nar_byte _) W14 2 rfl (Nat.le_of_ble_eq_true rfl)
        rw [own_bb] at V14
        refine go_of (B := (T14.setTop (mkF m 32 #[.val (.ref s'), .val (.int (2 : Int32)), .val (.ref d), .val (.int (2 : Int32)), .val (.int (4 : Int32)), .val (.int (2 : Int32)), .val (.int c2)] []))) (st14) ?_
        refine go_of (B := (T14.setTop (mkF m 7 #[.val (.ref s'), .val (.int (3 : Int32)), .val (.ref d), .val (.int (3 : Int32)), .val (.int (4 : Int32)), .val (.int (3 : Int32)), .val (.int c2)] [(.int (4 : Int32)), (.int (3 : Int32))]))) (fun _ kk => XS.iinc X14.here hx rfl (hb hby d17_32) rfl rfl (XS.iinc X14.here hx rfl (hb hby d17_35) rfl rfl (XS.iinc X14.here hx rfl (hb hby d17_38) rfl rfl (XS.goto X14.here hx rfl (pc0 := 41) (pc' := 3) rfl (hb hby d17_41) (by decide) (by decide) (XS.iload X14.here hx rfl (hb hby d17_3) rfl (XS.iload X14.here hx rfl (hb hby d17_5) rfl kk)))))) ?_
        refine go_of (B := (T14.setTop (mkF m 12 #[.val (.ref s'), .val (.int (3 : Int32)), .val (.ref d), .val (.int (3 : Int32)), .val (.int (4 : Int32)), .val (.int (3 : Int32)), .val (.int c2)] [(.int (3 : Int32)), (.ref s')]))) (fun _ kk => XS.icmpNo X14.here hx rfl (hb hby d17_7) rfl (tlt (by decide : (3 : Int32) < (4 : Int32))).2.1 (XS.aloadN X14.here hx rfl (hb hby d17_10) rfl rfl (XS.iloadN X14.here hx rfl (hb hby d17_11) rfl kk))) ?_
        have cf_15 := (cf_10.other W14 (by first | omega | exact own_ne (by omega) | exact own_le (by omega)))
        obtain ⟨cl16, Ar16, q16, Sz16, Nn16, Hh16, G16⟩ := id (cf_15)
        refine go_of (B := (T14.setTop (mkF m 20 #[.val (.ref s'), .val (.int (3 : Int32)), .val (.ref d), .val (.int (3 : Int32)), .val (.int (4 : Int32)), .val (.int (3 : Int32)), .val (.int c3)] [(.int (255 : Int32)), (.int c3)]))) (fun _ kk => X14.caload hx (j := (3 : Int32)) (v := (.int c3)) (by rw [e14]; exact Ar16.1) (State.isArrayOf_alike hZ.alike Ar16.2.1) Ar16.2.2 (inb_of Sz16 ⟨by decide, by decide⟩) (Hh16.at (inb_of Sz16 ⟨by decide, by decide⟩) rfl) (g := (mkF m 12 #[.val (.ref s'), .val (.int (3 : Int32)), .val (.ref d), .val (.int (3 : Int32)), .val (.int (4 : Int32)), .val (.int (3 : Int32)), .val (.int c2)] [(.int (3 : Int32)), (.ref s')])) rfl rfl (hb hby d17_12) _ (XS.istore X14.here hx rfl (hb hby d17_13) rfl rfl (XS.iload X14.here hx rfl (hb hby d17_15) rfl (XS.sipush X14.here hx rfl (hb hby d17_17) kk)))) ?_
        by_cases hcc17 : (255 : Int32) < c3
        · refine go_of (B := (T14.setTop (mkF m 25 #[.val (.ref s'), .val (.int (3 : Int32)), .val (.ref d), .val (.int (3 : Int32)), .val (.int (4 : Int32)), .val (.int (3 : Int32)), .val (.int c3)] [(.int (3 : Int32))]))) (fun _ kk => XS.icmpNo X14.here hx rfl (hb hby d17_20) rfl (tlt hcc17).2.2.2 (XS.iload X14.here hx rfl (hb hby d17_23) rfl kk)) ?_
          refine go_end X14 (v := some (.int (3 : Int32))) (fun h => by rw [Bd.returns] at h; cases h) Bd.notSynchronized (by decide) (by decide) (Q := (Q_u_c5_4 Z s' d c0 c1 c2 c3 ks kd h0 n0)) ?_ (fun fs hr => own_retI X14 hx Bd.returns (hb hby d17_25) hr)
          unfold Q_u_c5_4
          try rw [e14]
          exact ⟨_, rfl, N14, ((((Keep.refl h0 [d]).wr W4 (Or.inl (List.mem_of_getElem? (i := 0) rfl))).wr W9 (Or.inl (List.mem_of_getElem? (i := 0) rfl))).wr W14 (Or.inl (List.mem_of_getElem? (i := 0) rfl))), Or.inr (Or.inr (Or.inr (Or.inr (⟨rfl, hcc17⟩))))⟩
        · refine go_of (B := (T14.setTop (mkF m 31 #[.val (.ref s'), .val (.int (3 : Int32)), .val (.ref d), .val (.int (3 : Int32)), .val (.int (4 : Int32)), .val (.int (3 : Int32)), .val (.int c3)] [(.int (c3.toInt8.toInt32)), (.int (3 : Int32)), (.ref d)]))) (fun _ kk => XS.icmpYes X14.here hx rfl (pc0 := 20) (pc' := 26) rfl (hb hby d17_20) rfl (flt hcc17).2.2.2 (by decide) (by decide) (XS.aloadN X14.here hx rfl (hb hby d17_26) rfl rfl (XS.iloadN X14.here hx rfl (hb hby d17_27) rfl (XS.iload X14.here hx rfl (hb hby d17_28) rfl (XS.i2b X14.here hx rfl (hb hby d17_30) rfl kk))))) ?_
          obtain ⟨cl18, Ar18, q18, Sz18, Nn18, Hh18, G18⟩ := id (V14)
          obtain ⟨T19, h19, X19, e19, W19, st19⟩ := stB X14 hx hZ e14 Ar18 (j := (3 : Int32)) (inb_of Sz18 ⟨by decide, by decide⟩) (g := (mkF m 31 #[.val (.ref s'), .val (.int (3 : Int32)), .val (.ref d), .val (.int (3 : Int32)), .val (.int (4 : Int32)), .val (.int (3 : Int32)), .val (.int c3)] [(.int (c3.toInt8.toInt32)), (.int (3 : Int32)), (.ref d)])) rfl rfl (hb hby d17_31)
          have sz19 := W19.size
          have N19 := Fr.snoc X19 N14 (g : n0 ≤ d)
          have V19 : Arv Z h19 d kd .byte (4 : Int32) [(.int (c0.toInt8.toInt32)), (.int (c1.toInt8.toInt32)), (.int (c2.toInt8.toInt32)), (.int ((c3.toInt8.toInt32).toInt8.toInt32))] (.int (0 : Int32)) := Arv.set Ar18 q18 Sz18 Nn18 Hh18 G18 (fits_nar_byte _) W19 3 rfl (Nat.le_of_ble_eq_true rfl)
          rw [own_bb] at V19
          refine go_of (B := (T19.setTop (mkF m 32 #[.val (.ref s'), .val (.int (3 : Int32)), .val (.ref d), .val (.int (3 : Int32)), .val (.int (4 : Int32)), .val (.int (3 : Int32)), .val (.int c3)] []))) (st19) ?_
          refine go_of (B := (T19.setTop (mkF m 7 #[.val (.ref s'), .val (.int (4 : Int32)), .val (.ref d), .val (.int (4 : Int32)), .val (.int (4 : Int32)), .val (.int (4 : Int32)), .val (.int c3)] [(.int (4 : Int32)), (.int (4 : Int32))]))) (fun _ kk => XS.iinc X19.here hx rfl (hb hby d17_32) rfl rfl (XS.iinc X19.here hx rfl (hb hby d17_35) rfl rfl (XS.iinc X19.here hx rfl (hb hby d17_38) rfl rfl (XS.goto X19.here hx rfl (pc0 := 41) (pc' := 3) rfl (hb hby d17_41) (by decide) (by decide) (XS.iload X19.here hx rfl (hb hby d17_3) rfl (XS.iload X19.here hx rfl (hb hby d17_5) rfl kk)))))) ?_
          refine go_of (B := (T19.setTop (mkF m 46 #[.val (.ref s'), .val (.int (4 : Int32)), .val (.ref d), .val (.int (4 : Int32)), .val (.int (4 : Int32)), .val (.int (4 : Int32)), .val (.int c3)] [(.int (4 : Int32))]))) (fun _ kk => XS.icmpYes X19.here hx rfl (pc0 := 7) (pc' := 44) rfl (hb hby d17_7) rfl (flt (by decide : ¬ ((4 : Int32) < (4 : Int32)))).2.1 (by decide) (by decide) (XS.iload X19.here hx rfl (hb hby d17_44) rfl kk)) ?_
          refine go_end X19 (v := some (.int (4 : Int32))) (fun h => by rw [Bd.returns] at h; cases h) Bd.notSynchronized (by decide) (by decide) (Q := (Q_u_c5_4 Z s' d c0 c1 c2 c3 ks kd h0 n0)) ?_ (fun fs hr => own_retI X19 hx Bd.returns (hb hby d17_46) hr)
          unfold Q_u_c5_4
          try rw [e19]
          exact ⟨_, rfl, N19, (((((Keep.refl h0 [d]).wr W4 (Or.inl (List.mem_of_getElem? (i := 0) rfl))).wr W9 (Or.inl (List.mem_of_getElem? (i := 0) rfl))).wr W14 (Or.inl (List.mem_of_getElem? (i := 0) rfl))).wr W19 (Or.inl (List.mem_of_getElem? (i := 0) rfl))), Or.inl ⟨rfl, hcc2, hcc7, hcc12, hcc17, V19⟩⟩
def Q_u_nbl_4 (Z : State)  (h0 : Heap) (n0 : Nat) (v : Option Value) (h : Heap) (L : List Loc) : Prop := v = some (.int 8) ∧ Fr n0 L ∧ h = h0
theorem ef_u_nbl_4 (m : MethodId)   : entryFrame m #[(.int (4 : Int32))] 1 = mkF m 0 #[.val (.int (4 : Int32))] [] := by first | (simp [entryFrame, mkF, argsToLocals, Value.category]; done) | rfl
theorem u_nbl_4 (l : Launch) (Z : State) (a0 : Array Value) (hw : TW a0 Z) (ws : List Cond)  (h0 : Heap) (n0 : Nat) (Z0 : n0 ≤ h0.size)  :
    own_MF l Z MN24 jdk_52_method_3_code 1 (some .int) ws (own_R 0 0 0 0) #[(.int (4 : Int32))] h0 (Q_u_nbl_4 Z  h0 n0) := by
  have wd := @own_wd _ _ hw
  refine MetFree.of_bodySF (plainFor_of_name pn_java_lang_StringUTF16) hisR ?_
  intro p e s m args below meth c s₁ Bd hml0 hP hK
  obtain ⟨rfl, hZ, hh⟩ := hP
  have hx := Bd.exec
  have hby := Bd.bytes
  have hml : c.maxLocals = 1 := hml0
  have hown : s.vm.findClass "java/lang/StringUTF16" = some m.cls := findClass_of_methodNamed Bd.named
  have hnm := (name_of_methodNamed Bd.named Bd.method).1
  have X0 : Stand p l e (own_R 0 0 0 0) s m #[(.int (4 : Int32))] below meth c s₁ [] 0 0 := Stand.of_body Bd
  have e0 : s₁.heap = h0 := by rw [← hh, Bd.state]; rfl
  have N0 := Fr.nil n0
  refine go_of (A := s₁.setTop (entryFrame m #[(.int (4 : Int32))] 1)) (B := s₁.setTop (mkF m 0 #[.val (.int (4 : Int32))] [])) (fun _ kk' => castTop (ef_u_nbl_4 m ) kk') ?_
  refine go_of (B := (s₁.setTop (mkF m 56 #[.val (.int (4 : Int32))] [(.int (4 : Int32))]))) (fun _ kk => XS.iloadN X0.here hx rfl (hb hby d22_0) rfl (XS.ifYes X0.here hx rfl (pc0 := 1) (pc' := 12) rfl (hb hby d22_1) rfl ((if0 _ _).trans (flt (by decide : ¬ ((4 : Int32) < (0 : Int32)))).2.1) (by decide) (by decide) (XS.iloadN X0.here hx rfl (hb hby d22_12) rfl (X0.ldcInt hx hown (mvT hZ (wd 97 rfl)) (g := (mkF m 13 #[.val (.int (4 : Int32))] [(.int (4 : Int32))])) rfl (hb hby d22_13) _ (XS.icmpYes X0.here hx rfl (pc0 := 15) (pc' := 55) rfl (hb hby d22_15) rfl (tlt (by decide : (4 : Int32) < (1073741823 : Int32))).1 (by decide) (by decide) (XS.iloadN X0.here hx rfl (hb hby d22_55) rfl kk)))))) ?_
  refine go_of (B := (s₁.setTop (mkF m 58 #[.val (.int (4 : Int32))] [(.int (8 : Int32))]))) (fun _ kk => XS.iconst X0.here hx rfl (hb hby d22_56) (XS.ishl X0.here hx rfl (hb hby d22_57) rfl kk)) ?_
  refine go_end X0 (v := some (.int (8 : Int32))) (fun h => by rw [Bd.returns] at h; cases h) Bd.notSynchronized (by decide) (by decide) (Q := (Q_u_nbl_4 Z  h0 n0)) ?_ (fun fs hr => own_retI X0 hx Bd.returns (hb hby d22_58) hr)
  unfold Q_u_nbl_4
  try rw [e0]
  exact ⟨rfl, N0, rfl⟩
def Q_u_nbf_4 (Z : State)  (h0 : Heap) (n0 : Nat) (v : Option Value) (h : Heap) (L : List Loc) : Prop := ∃ (t : Addr) (k : ClassId), v = some (.ref t) ∧ Fr n0 L ∧ h0.size ≤ t ∧ Keep h0 h [] ∧ Arv Z h t k .byte 8 [(.int 0), (.int 0), (.int 0), (.int 0), (.int 0), (.int 0), (.int 0), (.int 0)] (.int 0)
theorem ef_u_nbf_4 (m : MethodId)   : entryFrame m #[(.int (4 : Int32))] 1 = mkF m 0 #[.val (.int (4 : Int32))] [] := by first | (simp [entryFrame, mkF, argsToLocals, Value.category]; done) | rfl
theorem u_nbf_4 (l : Launch) (Z : State) (a0 : Array Value) (hw : TW a0 Z) (ws : List Cond)  (h0 : Heap) (n0 : Nat) (Z0 : n0 ≤ h0.size)  :
    own_MF l Z MN23 jdk_52_method_2_code 1 (some (.array .byte)) ws (own_R 1 1 8 12) #[(.int (4 : Int32))] h0 (Q_u_nbf_4 Z  h0 n0) := by
  have wd := @own_wd _ _ hw
  refine MetFree.of_bodySF (plainFor_of_name pn_java_lang_StringUTF16) hisR ?_
  intro p e s m args below meth c s₁ Bd hml0 hP hK
  obtain ⟨rfl, hZ, hh⟩ := hP
  have hx := Bd.exec
  have hby := Bd.bytes
  have hml : c.maxLocals = 1 := hml0
  have hown : s.vm.findClass "java/lang/StringUTF16" = some m.cls := findClass_of_methodNamed Bd.named
  have hnm := (name_of_methodNamed Bd.named Bd.method).1
  have X0 : Stand p l e (own_R 1 1 8 12) s m #[(.int (4 : Int32))] below meth c s₁ [] 0 0 := Stand.of_body Bd
  have e0 : s₁.heap = h0 := by rw [← hh, Bd.state]; rfl
  have N0 := Fr.nil n0
  refine go_of (A := s₁.setTop (entryFrame m #[(.int (4 : Int32))] 1)) (B := s₁.setTop (mkF m 0 #[.val (.int (4 : Int32))] [])) (fun _ kk' => castTop (ef_u_nbf_4 m ) kk') ?_
  refine go_of (B := (s₁.setTop (mkF m 1 #[.val (.int (4 : Int32))] [(.int (4 : Int32))]))) (fun _ kk => XS.iloadN X0.here hx rfl (hb hby d21_0) rfl kk) ?_
  obtain ⟨_, _, ⟨T1, L1, k1, n1⟩, -, X1, ⟨Lc1, hQ1, l1, y1, z1⟩, st1⟩ := Jvm.LawKit.callS X0 hx (y := MN24) hown (mvT hZ (wd 94 rfl)) (mvT hZ (wd 95 rfl)) (mvT hZ (wd 77 rfl)) (mvT hZ (wd 96 rfl)) (by decide) (backOf (W := 0) (u_nbl_4 l Z a0 hw [] h0 n0 (by omega)) hZ (wd 96 rfl) (wd 77 rfl) (by decide) (by decide)) (g := (mkF m 1 #[.val (.int (4 : Int32))] [(.int (4 : Int32))])) rfl (by rw [hml]; rfl) (argsL := [(.int (4 : Int32))]) (rest := []) (lenOf pd__I_I rfl) rfl (Nat.le_of_eq rfl) (hb hby d21_1) (fun _ _ => ⟨rfl, e0, (by decide : 0 + 0 ≤ _), (by decide : 0 + 0 ≤ _)⟩)
  dsimp only [Pt.U, Pt.locs, Pt.cells, Pt.slots] at X1 l1 y1 z1 st1 hQ1
  subst l1 y1 z1
  obtain ⟨rfl, N1q, e1⟩ := hQ1
  have N1 := Fr.app N0 N1q
  refine go_of (B := (T1.setTop (mkF m 4 #[.val (.int (4 : Int32))] [(.int (8 : Int32))]))) (st1) ?_
  obtain ⟨T2, h2, k2, X2, e2, E2, A2, st2⟩ := newP X1 hx hZ (wd 21 rfl) e1 (g := (mkF m 4 #[.val (.int (4 : Int32))] [(.int (8 : Int32))])) rfl (hb hby d21_4) rfl (by decide) (cap := 8) (by decide) (by decide) (by decide) (by decide)
  obtain ⟨b2, g2⟩ : ∃ z, z = h0.size := ⟨_, rfl⟩
  rw [← g2] at A2 st2
  have hi2 := own_nlt A2.lt
  have sz2 := E2.1
  have V2 : Arv Z h2 b2 k2 .byte (8 : Int32) [(.int (0 : Int32)), (.int (0 : Int32)), (.int (0 : Int32)), (.int (0 : Int32)), (.int (0 : Int32)), (.int (0 : Int32)), (.int (0 : Int32)), (.int (0 : Int32))] (.int (0 : Int32)) := (Arv.new A2 (by decide)).pad (pad_rep [] (.int (0 : Int32)) 8)
  refine go_of (B := (T2.setTop (mkF m 6 #[.val (.int (4 : Int32))] [(.ref b2)]))) (st2) ?_
  refine go_end X2 (v := some (.ref b2)) (fun h => by rw [Bd.returns] at h; cases h) Bd.notSynchronized (by decide) (by decide) (Q := (Q_u_nbf_4 Z  h0 n0)) ?_ (fun fs hr => own_retA X2 hx Bd.returns rfl rfl (hb hby d21_6) hr)
  unfold Q_u_nbf_4
  try rw [e2]
  exact ⟨b2, k2, rfl, N1, by omega, ((Keep.refl h0 []).ext E2), V2⟩
def Q_u_tob_4 (Z : State) (s' : Addr) (c0 : Int32) (c1 : Int32) (c2 : Int32) (c3 : Int32) (ks : ClassId) (h0 : Heap) (n0 : Nat) (v : Option Value) (h : Heap) (L : List Loc) : Prop := ∃ (t : Addr) (k : ClassId), v = some (.ref t) ∧ Fr n0 L ∧ h0.size ≤ t ∧ Keep h0 h [] ∧ Arv Z h t k .byte 8 [(.int (own_b0 c0)), (.int (own_b1 c0)), (.int (own_b0 c1)), (.int (own_b1 c1)), (.int (own_b0 c2)), (.int (own_b1 c2)), (.int (own_b0 c3)), (.int (own_b1 c3))] (.int 0)
theorem ef_u_tob_4 (m : MethodId) (s' : Addr)  : entryFrame m #[(.ref s'), (.int (0 : Int32)), (.int (4 : Int32))] 5 = mkF m 0 #[.val (.ref s'), .val (.int (0 : Int32)), .val (.int (4 : Int32)), .unset, .unset] [] := by first | (simp [entryFrame, mkF, argsToLocals, Value.category]; done) | rfl
theorem u_tob_4 (l : Launch) (Z : State) (a0 : Array Value) (hw : TW a0 Z) (ws : List Cond) (s' : Addr) (c0 : Int32) (c1 : Int32) (c2 : Int32) (c3 : Int32) (ks : ClassId) (h0 : Heap) (n0 : Nat) (Z0 : n0 ≤ h0.size) (O : Old Z n0 h0) (SU : US Z) (Vs : Arv Z h0 s' ks .char 4 [(.int c0), (.int c1), (.int c2), (.int c3)] (.int 0)) :
    own_MF l Z MN26 jdk_52_method_14_code 5 (some (.array .byte)) ws (own_R 2 1 8 24) #[(.ref s'), (.int (0 : Int32)), (.int (4 : Int32))] h0 (Q_u_tob_4 Z s' c0 c1 c2 c3 ks h0 n0) := by
  have wd := @own_wd _ _ hw
  refine MetFree.of_bodySF (plainFor_of_name pn_java_lang_StringUTF16) hisR ?_
  intro p e s m args below meth c s₁ Bd hml0 hP hK
  obtain ⟨rfl, hZ, hh⟩ := hP
  have hx := Bd.exec
  have hby := Bd.bytes
  have hml : c.maxLocals = 5 := hml0
  have hown : s.vm.findClass "java/lang/StringUTF16" = some m.cls := findClass_of_methodNamed Bd.named
  have hnm := (name_of_methodNamed Bd.named Bd.method).1
  have X0 : Stand p l e (own_R 2 1 8 24) s m #[(.ref s'), (.int (0 : Int32)), (.int (4 : Int32))] below meth c s₁ [] 0 0 := Stand.of_body Bd
  have e0 : s₁.heap = h0 := by rw [← hh, Bd.state]; rfl
  have N0 := Fr.nil n0
  have lts := own_nlt (Vs.lt)
  refine go_of (A := s₁.setTop (entryFrame m #[(.ref s'), (.int (0 : Int32)), (.int (4 : Int32))] 5)) (B := s₁.setTop (mkF m 0 #[.val (.ref s'), .val (.int (0 : Int32)), .val (.int (4 : Int32)), .unset, .unset] [])) (fun _ kk' => castTop (ef_u_tob_4 m s') kk') ?_
  refine go_of (B := (s₁.setTop (mkF m 1 #[.val (.ref s'), .val (.int (0 : Int32)), .val (.int (4 : Int32)), .unset, .unset] [(.int (4 : Int32))]))) (fun _ kk => XS.iloadN X0.here hx rfl (hb hby d20_0) rfl kk) ?_
  obtain ⟨_, _, ⟨T1, L1, k1, n1⟩, -, X1, ⟨Lc1, hQ1, l1, y1, z1⟩, st1⟩ := Jvm.LawKit.callS X0 hx (y := MN23) hown (mvT hZ (wd 91 rfl)) (mvT hZ (wd 92 rfl)) (mvT hZ (wd 77 rfl)) (mvT hZ (wd 93 rfl)) (by decide) (backOf (W := 0) (u_nbf_4 l Z a0 hw [] h0 n0 (by omega)) hZ (wd 93 rfl) (wd 77 rfl) (by decide) (by decide)) (g := (mkF m 1 #[.val (.ref s'), .val (.int (0 : Int32)), .val (.int (4 : Int32)), .unset, .unset] [(.int (4 : Int32))])) rfl (by rw [hml]; rfl) (argsL := [(.int (4 : Int32))]) (rest := []) (lenOf pd__I__B rfl) rfl (Nat.le_of_eq rfl) (hb hby d20_1) (fun _ _ => ⟨rfl, e0, (by decide : 0 + 1 ≤ _), (by decide : 0 + 8 ≤ _)⟩)
  dsimp only [Pt.U, Pt.locs, Pt.cells, Pt.slots] at X1 l1 y1 z1 st1 hQ1
  subst l1 y1 z1
  obtain ⟨b1, k1, rfl, N1q, lo1, K1, V1⟩ := hQ1
  have lo1 := own_nle lo1
  have N1 := Fr.app N0 N1q
  have hi1 := own_nlt (V1.lt)
  have sz1 := K1.1
  refine go_of (B := (T1.setTop (mkF m 4 #[.val (.ref s'), .val (.int (0 : Int32)), .val (.int (4 : Int32)), .unset, .unset] [(.ref b1)]))) (st1) ?_
  refine go_of (B := (T1.setTop (mkF m 14 #[.val (.ref s'), .val (.int (0 : Int32)), .val (.int (4 : Int32)), .val (.ref b1), .val (.int (0 : Int32))] []))) (fun _ kk => XS.astoreN X1.here hx rfl (hb hby d20_4) rfl rfl rfl (XS.iconst X1.here hx rfl (hb hby d20_5) (XS.istore X1.here hx rfl (hb hby d20_6) rfl rfl (XS.iload X1.here hx rfl (hb hby d20_8) rfl (XS.iloadN X1.here hx rfl (hb hby d20_10) rfl (XS.icmpNo X1.here hx rfl (hb hby d20_11) rfl (tlt (by decide : (0 : Int32) < (4 : Int32))).2.1 kk)))))) ?_
  refine go_of (B := (T1.setTop (mkF m 19 #[.val (.ref s'), .val (.int (0 : Int32)), .val (.int (4 : Int32)), .val (.ref b1), .val (.int (0 : Int32))] [(.int (0 : Int32)), (.ref s'), (.int (0 : Int32)), (.ref b1)]))) (fun _ kk => XS.aloadN X1.here hx rfl (hb hby d20_14) rfl rfl (XS.iload X1.here hx rfl (hb hby d20_15) rfl (XS.aloadN X1.here hx rfl (hb hby d20_17) rfl rfl (XS.iloadN X1.here hx rfl (hb hby d20_18) rfl kk)))) ?_
  have cf_2 := (Vs.keep K1 nin0)
  obtain ⟨cl3, Ar3, q3, Sz3, Nn3, Hh3, G3⟩ := id (cf_2)
  refine go_of (B := (T1.setTop (mkF m 20 #[.val (.ref s'), .val (.int (0 : Int32)), .val (.int (4 : Int32)), .val (.ref b1), .val (.int (0 : Int32))] [(.int c0), (.int (0 : Int32)), (.ref b1)]))) (fun _ kk => X1.caload hx (j := (0 : Int32)) (v := (.int c0)) (by exact Ar3.1) (State.isArrayOf_alike hZ.alike Ar3.2.1) Ar3.2.2 (inb_of Sz3 ⟨by decide, by decide⟩) (Hh3.at (inb_of Sz3 ⟨by decide, by decide⟩) rfl) (g := (mkF m 19 #[.val (.ref s'), .val (.int (0 : Int32)), .val (.int (4 : Int32)), .val (.ref b1), .val (.int (0 : Int32))] [(.int (0 : Int32)), (.ref s'), (.int (0 : Int32)), (.ref b1)])) rfl rfl (hb hby d20_19) _ kk) ?_
  have cf_4 := (O.keep K1 all0)
  obtain ⟨_, _, ⟨T5, L5, k5, n5⟩, -, X5, ⟨Lc5, hQ5, l5, y5, z5⟩, st5⟩ := Jvm.LawKit.callS X1 hx (y := MN25) hown (mvT hZ (wd 98 rfl)) (mvT hZ (wd 99 rfl)) (mvT hZ (wd 77 rfl)) (mvT hZ (wd 100 rfl)) (by decide) (backOf (W := 0) (u_put l Z a0 hw [] b1 (0 : Int32) c0 (8 : Int32) _ 0 1 k1 T1.heap n0 (by omega) cf_4 SU V1 (by first | omega | exact own_ne (by omega) | exact own_le (by omega)) (by decide) (by decide) rfl rfl (Nat.le_of_ble_eq_true rfl) (Nat.le_of_ble_eq_true rfl)) hZ (wd 100 rfl) (wd 77 rfl) (by decide) (by decide)) (g := (mkF m 20 #[.val (.ref s'), .val (.int (0 : Int32)), .val (.int (4 : Int32)), .val (.ref b1), .val (.int (0 : Int32))] [(.int c0), (.int (0 : Int32)), (.ref b1)])) rfl (by rw [hml]; rfl) (argsL := [(.ref b1), (.int (0 : Int32)), (.int c0)]) (rest := []) (lenOf pd___BII_V rfl) rfl (Nat.le_of_eq rfl) (hb hby d20_20) (fun _ _ => ⟨rfl, rfl, (by decide : 1 + 0 ≤ _), (by decide : 8 + 0 ≤ _)⟩)
  dsimp only [Pt.U, Pt.locs, Pt.cells, Pt.slots] at X5 l5 y5 z5 st5 hQ5
  subst l5 y5 z5
  obtain ⟨rfl, N5q, K5, V5⟩ := hQ5
  have N5 := Fr.app N1 N5q
  have sz5 := K5.1
  refine go_of (B := (T5.setTop (mkF m 23 #[.val (.ref s'), .val (.int (0 : Int32)), .val (.int (4 : Int32)), .val (.ref b1), .val (.int (0 : Int32))] []))) (st5) ?_
  refine go_of (B := (T5.setTop (mkF m 14 #[.val (.ref s'), .val (.int (1 : Int32)), .val (.int (4 : Int32)), .val (.ref b1), .val (.int (1 : Int32))] []))) (fun _ kk => XS.iinc X5.here hx rfl (hb hby d20_23) rfl rfl (XS.iinc X5.here hx rfl (hb hby d20_26) rfl rfl (XS.goto X5.here hx rfl (pc0 := 29) (pc' := 8) rfl (hb hby d20_29) (by decide) (by decide) (XS.iload X5.here hx rfl (hb hby d20_8) rfl (XS.iloadN X5.here hx rfl (hb hby d20_10) rfl (XS.icmpNo X5.here hx rfl (hb hby d20_11) rfl (tlt (by decide : (1 : Int32) < (4 : Int32))).2.1 kk)))))) ?_
  refine go_of (B := (T5.setTop (mkF m 19 #[.val (.ref s'), .val (.int (1 : Int32)), .val (.int (4 : Int32)), .val (.ref b1), .val (.int (1 : Int32))] [(.int (1 : Int32)), (.ref s'), (.int (1 : Int32)), (.ref b1)]))) (fun _ kk => XS.aloadN X5.here hx rfl (hb hby d20_14) rfl rfl (XS.iload X5.here hx rfl (hb hby d20_15) rfl (XS.aloadN X5.here hx rfl (hb hby d20_17) rfl rfl (XS.iloadN X5.here hx rfl (hb hby d20_18) rfl kk)))) ?_
  have cf_6 := (cf_2.keep K5 (ninS (by first | omega | exact own_ne (by omega) | exact own_le (by omega)) nin0))
  obtain ⟨cl7, Ar7, q7, Sz7, Nn7, Hh7, G7⟩ := id (cf_6)
  refine go_of (B := (T5.setTop (mkF m 20 #[.val (.ref s'), .val (.int (1 : Int32)), .val (.int (4 : Int32)), .val (.ref b1), .val (.int (1 : Int32))] [(.int c1), (.int (1 : Int32)), (.ref b1)]))) (fun _ kk => X5.caload hx (j := (1 : Int32)) (v := (.int c1)) (by exact Ar7.1) (State.isArrayOf_alike hZ.alike Ar7.2.1) Ar7.2.2 (inb_of Sz7 ⟨by decide, by decide⟩) (Hh7.at (inb_of Sz7 ⟨by decide, by decide⟩) rfl) (g := (mkF m 19 #[.val (.ref s'), .val (.int (1 : Int32)), .val (.int (4 : Int32)), .val (.ref b1), .val (.int (1 : Int32))] [(.int (1 : Int32)), (.ref s'), (.int (1 : Int32)), (.ref b1)])) rfl rfl (hb hby d20_19) _ kk) ?_
  have cf_8 := (cf_4.keep K5 (allS (by first | omega | exact own_ne (by omega) | exact own_le (by omega)) all0))
  obtain ⟨_, _, ⟨T9, L9, k9, n9⟩, -, X9, ⟨Lc9, hQ9, l9, y9, z9⟩, st9⟩ := Jvm.LawKit.callS X5 hx (y := MN25) hown (mvT hZ (wd 98 rfl)) (mvT hZ (wd 99 rfl)) (mvT hZ (wd 77 rfl)) (mvT hZ (wd 100 rfl)) (by decide) (backOf (W := 0) (u_put l Z a0 hw [] b1 (1 : Int32) c1 (8 : Int32) _ 2 3 k1 T5.heap n0 (by omega) cf_8 SU V5 (by first | omega | exact own_ne (by omega) | exact own_le (by omega)) (by decide) (by decide) rfl rfl (Nat.le_of_ble_eq_true rfl) (Nat.le_of_ble_eq_true rfl)) hZ (wd 100 rfl) (wd 77 rfl) (by decide) (by decide)) (g := (mkF m 20 #[.val (.ref s'), .val (.int (1 : Int32)), .val (.int (4 : Int32)), .val (.ref b1), .val (.int (1 : Int32))] [(.int c1), (.int (1 : Int32)), (.ref b1)])) rfl (by rw [hml]; rfl) (argsL := [(.ref b1), (.int (1 : Int32)), (.int c1)]) (rest := []) (lenOf pd___BII_V rfl) rfl (Nat.le_of_eq rfl) (hb hby d20_20) (fun _ _ => ⟨rfl, rfl, (by decide : 1 + 0 ≤ _), (by decide : 8 + 0 ≤ _)⟩)
  dsimp only [Pt.U, Pt.locs, Pt.cells, Pt.slots] at X9 l9 y9 z9 st9 hQ9
  subst l9 y9 z9
  obtain ⟨rfl, N9q, K9, V9⟩ := hQ9
  have N9 := Fr.app N5 N9q
  have sz9 := K9.1
  refine go_of (B := (T9.setTop (mkF m 23 #[.val (.ref s'), .val (.int (1 : Int32)), .val (.int (4 : Int32)), .val (.ref b1), .val (.int (1 : Int32))] []))) (st9) ?_
  refine go_of (B := (T9.setTop (mkF m 14 #[.val (.ref s'), .val (.int (2 : Int32)), .val (.int (4 : Int32)), .val (.ref b1), .val (.int (2 : Int32))] []))) (fun _ kk => XS.iinc X9.here hx rfl (hb hby d20_23) rfl rfl (XS.iinc X9.here hx rfl (hb hby d20_26) rfl rfl (XS.goto X9.here hx rfl (pc0 := 29) (pc' := 8) rfl (hb hby d20_29) (by decide) (by decide) (XS.iload X9.here hx rfl (hb hby d20_8) rfl (XS.iloadN X9.here hx rfl (hb hby d20_10) rfl (XS.icmpNo X9.here hx rfl (hb hby d20_11) rfl (tlt (by decide : (2 : Int32) < (4 : Int32))).2.1 kk)))))) ?_
  refine go_of (B := (T9.setTop (mkF m 19 #[.val (.ref s'), .val (.int (2 : Int32)), .val (.int (4 : Int32)), .val (.ref b1), .val (.int (2 : Int32))] [(.int (2 : Int32)), (.ref s'), (.int (2 : Int32)), (.ref b1)]))) (fun _ kk => XS.aloadN X9.here hx rfl (hb hby d20_14) rfl rfl (XS.iload X9.here hx rfl (hb hby d20_15) rfl (XS.aloadN X9.here hx rfl (hb hby d20_17) rfl rfl (XS.iloadN X9.here hx rfl (hb hby d20_18) rfl kk)))) ?_
  have cf_10 := (cf_6.keep K9 (ninS (by first | omega | exact own_ne (by omega) | exact own_le (by omega)) nin0))
  obtain ⟨cl11, Ar11, q11, Sz11, Nn11, Hh11, G11⟩ := id (cf_10)
  refine go_of (B := (T9.setTop (mkF m 20 #[.val (.ref s'), .val (.int (2 : Int32)), .val (.int (4 : Int32)), .val (.ref b1), .val (.int (2 : Int32))] [(.int c2), (.int (2 : Int32)), (.ref b1)]))) (fun _ kk => X9.caload hx (j := (2 : Int32)) (v := (.int c2)) (by exact Ar11.1) (State.isArrayOf_alike hZ.alike Ar11.2.1) Ar11.2.2 (inb_of Sz11 ⟨by decide, by decide⟩) (Hh11.at (inb_of Sz11 ⟨by decide, by decide⟩) rfl) (g := (mkF m 19 #[.val (.ref s'), .val (.int (2 : Int32)), .val (.int (4 : Int32)), .val (.ref b1), .val (.int (2 : Int32))] [(.int (2 : Int32)), (.ref s'), (.int (2 : Int32)), (.ref b1)])) rfl rfl (hb hby d20_19) _ kk) ?_
  have cf_12 := (cf_8.keep K9 (allS (by first | omega | exact own_ne (by omega) | exact own_le (by omega)) all0))
  obtain ⟨_, _, ⟨T13, L13, k13, n13⟩, -, X13, ⟨Lc13, hQ13, l13, y13, z13⟩, st13⟩ := Jvm.LawKit.callS X9 hx (y := MN25) hown (mvT hZ (wd 98 rfl)) (mvT hZ (wd 99 rfl)) (mvT hZ (wd 77 rfl)) (mvT hZ (wd 100 rfl)) (by decide) (backOf (W := 0) (u_put l Z a0 hw [] b1 (2 : Int32) c2 (8 : Int32) _ 4 5 k1 T9.heap n0 (by omega) cf_12 SU V9 (by first | omega | exact own_ne (by omega) | exact own_le (by omega)) (by decide) (by decide) rfl rfl (Nat.le_of_ble_eq_true rfl) (Nat.le_of_ble_eq_true rfl)) hZ (wd 100 rfl) (wd 77 rfl) (by decide) (by decide)) (g := (mkF m 20 #[.val (.ref s'), .val (.int (2 : Int32)), .val (.int (4 : Int32)), .val (.ref b1), .val (.int (2 : Int32))] [(.int c2), (.int (2 : Int32)), (.ref b1)])) rfl (by rw [hml]; rfl) (argsL := [(.ref b1), (.int (2 : Int32)), (.int c2)]) (rest := []) (lenOf pd___BII_V rfl) rfl (Nat.le_of_eq rfl) (hb hby d20_20) (fun _ _ => ⟨rfl, rfl, (by decide : 1 + 0 ≤ _), (by decide : 8 + 0 ≤ _)⟩)
  dsimp only [Pt.U, Pt.locs, Pt.cells, Pt.slots] at X13 l13 y13 z13 st13 hQ13
  subst l13 y13 z13
  obtain ⟨rfl, N13q, K13, V13⟩ := hQ13
  have N13 := Fr.app N9 N13q
  have sz13 := K13.1
  refine go_of (B := (T13.setTop (mkF m 23 #[.val (.ref s'), .val (.int (2 : Int32)), .val (.int (4 : Int32)), .val (.ref b1), .val (.int (2 : Int32))] []))) (st13) ?_
  refine go_of (B := (T13.setTop (mkF m 14 #[.val (.ref s'), .val (.int (3 : Int32)), .val (.int (4 : Int32)), .val (.ref b1), .val (.int (3 : Int32))] []))) (fun _ kk => XS.iinc X13.here hx rfl (hb hby d20_23) rfl rfl (XS.iinc X13.here hx rfl (hb hby d20_26) rfl rfl (XS.goto X13.here hx rfl (pc0 := 29) (pc' := 8) rfl (hb hby d20_29) (by decide) (by decide) (XS.iload X13.here hx rfl (hb hby d20_8) rfl (XS.iloadN X13.here hx rfl (hb hby d20_10) rfl (XS.icmpNo X13.here hx rfl (hb hby d20_11) rfl (tlt (by decide : (3 : Int32) < (4 : Int32))).2.1 kk)))))) ?_
  refine go_of (B := (T13.setTop (mkF m 19 #[.val (.ref s'), .val (.int (3 : Int32)), .val (.int (4 : Int32)), .val (.ref b1), .val (.int (3 : Int32))] [(.int (3 : Int32)), (.ref s'), (.int (3 : Int32)), (.ref b1)]))) (fun _ kk => XS.aloadN X13.here hx rfl (hb hby d20_14) rfl rfl (XS.iload X13.here hx rfl (hb hby d20_15) rfl (XS.aloadN X13.here hx rfl (hb hby d20_17) rfl rfl (XS.iloadN X13.here hx rfl (hb hby d20_18) rfl kk)))) ?_
  have cf_14 := (cf_10.keep K13 (ninS (by first | omega | exact own_ne (by omega) | exact own_le (by omega)) nin0))
  obtain ⟨cl15, Ar15, q15, Sz15, Nn15, Hh15, G15⟩ := id (cf_14)
  refine go_of (B := (T13.setTop (mkF m 20 #[.val (.ref s'), .val (.int (3 : Int32)), .val (.int (4 : Int32)), .val (.ref b1), .val (.int (3 : Int32))] [(.int c3), (.int (3 : Int32)), (.ref b1)]))) (fun _ kk => X13.caload hx (j := (3 : Int32)) (v := (.int c3)) (by exact Ar15.1) (State.isArrayOf_alike hZ.alike Ar15.2.1) Ar15.2.2 (inb_of Sz15 ⟨by decide, by decide⟩) (Hh15.at (inb_of Sz15 ⟨by decide, by decide⟩) rfl) (g := (mkF m 19 #[.val (.ref s'), .val (.int (3 : Int32)), .val (.int (4 : Int32)), .val (.ref b1), .val (.int (3 : Int32))] [(.int (3 : Int32)), (.ref s'), (.int (3 : Int32)), (.ref b1)])) rfl rfl (hb hby d20_19) _ kk) ?_
  have cf_16 := (cf_12.keep K13 (allS (by first | omega | exact own_ne (by omega) | exact own_le (by omega)) all0))
  obtain ⟨_, _, ⟨T17, L17, k17, n17⟩, -, X17, ⟨Lc17, hQ17, l17, y17, z17⟩, st17⟩ := Jvm.LawKit.callS X13 hx (y := MN25) hown (mvT hZ (wd 98 rfl)) (mvT hZ (wd 99 rfl)) (mvT hZ (wd 77 rfl)) (mvT hZ (wd 100 rfl)) (by decide) (backOf (W := 0) (u_put l Z a0 hw [] b1 (3 : Int32) c3 (8 : Int32) _ 6 7 k1 T13.heap n0 (by omega) cf_16 SU V13 (by first | omega | exact own_ne (by omega) | exact own_le (by omega)) (by decide) (by decide) rfl rfl (Nat.le_of_ble_eq_true rfl) (Nat.le_of_ble_eq_true rfl)) hZ (wd 100 rfl) (wd 77 rfl) (by decide) (by decide)) (g := (mkF m 20 #[.val (.ref s'), .val (.int (3 : Int32)), .val (.int (4 : Int32)), .val (.ref b1), .val (.int (3 : Int32))] [(.int c3), (.int (3 : Int32)), (.ref b1)])) rfl (by rw [hml]; rfl) (argsL := [(.ref b1), (.int (3 : Int32)), (.int c3)]) (rest := []) (lenOf pd___BII_V rfl) rfl (Nat.le_of_eq rfl) (hb hby d20_20) (fun _ _ => ⟨rfl, rfl, (by decide : 1 + 0 ≤ _), (by decide : 8 + 0 ≤ _)⟩)
  dsimp only [Pt.U, Pt.locs, Pt.cells, Pt.slots] at X17 l17 y17 z17 st17 hQ17
  subst l17 y17 z17
  obtain ⟨rfl, N17q, K17, V17⟩ := hQ17
  have N17 := Fr.app N13 N17q
  have sz17 := K17.1
  refine go_of (B := (T17.setTop (mkF m 23 #[.val (.ref s'), .val (.int (3 : Int32)), .val (.int (4 : Int32)), .val (.ref b1), .val (.int (3 : Int32))] []))) (st17) ?_
  refine go_of (B := (T17.setTop (mkF m 32 #[.val (.ref s'), .val (.int (4 : Int32)), .val (.int (4 : Int32)), .val (.ref b1), .val (.int (4 : Int32))] []))) (fun _ kk => XS.iinc X17.here hx rfl (hb hby d20_23) rfl rfl (XS.iinc X17.here hx rfl (hb hby d20_26) rfl rfl (XS.goto X17.here hx rfl (pc0 := 29) (pc' := 8) rfl (hb hby d20_29) (by decide) (by decide) (XS.iload X17.here hx rfl (hb hby d20_8) rfl (XS.iloadN X17.here hx rfl (hb hby d20_10) rfl (XS.icmpYes X17.here hx rfl (pc0 := 11) (pc' := 32) rfl (hb hby d20_11) rfl (flt (by decide : ¬ ((4 : Int32) < (4 : Int32)))).2.1 (by decide) (by decide) kk)))))) ?_
  refine go_of (B := (T17.setTop (mkF m 33 #[.val (.ref s'), .val (.int (4 : Int32)), .val (.int (4 : Int32)), .val (.ref b1), .val (.int (4 : Int32))] [(.ref b1)]))) (fun _ kk => XS.aloadN X17.here hx rfl (hb hby d20_32) rfl rfl kk) ?_
  refine go_end X17 (v := some (.ref b1)) (fun h => by rw [Bd.returns] at h; cases h) Bd.notSynchronized (by decide) (by decide) (Q := (Q_u_tob_4 Z s' c0 c1 c2 c3 ks h0 n0)) ?_ (fun fs hr => own_retA X17 hx Bd.returns rfl rfl (hb hby d20_33) hr)
  unfold Q_u_tob_4
  exact ⟨b1, k1, rfl, N17, by omega, ((((((Keep.refl h0 []).trans K1 all0).trans K5 (allS (Or.inr (by first | omega | exact own_ne (by omega) | exact own_le (by omega))) all0)).trans K9 (allS (Or.inr (by first | omega | exact own_ne (by omega) | exact own_le (by omega))) all0)).trans K13 (allS (Or.inr (by first | omega | exact own_ne (by omega) | exact own_le (by omega))) all0)).trans K17 (allS (Or.inr (by first | omega | exact own_ne (by omega) | exact own_le (by omega))) all0)), V17⟩
def Q_u_c3_4 (Z : State) (s' : Addr) (c0 : Int32) (c1 : Int32) (c2 : Int32) (c3 : Int32) (ks : ClassId) (h0 : Heap) (n0 : Nat) (v : Option Value) (h : Heap) (L : List Loc) : Prop := ∃ (t : Addr) (k : ClassId), v = some (.ref t) ∧ Fr n0 L ∧ h0.size ≤ t ∧ Keep h0 h [] ∧ ((¬ (255 : Int32) < c0 ∧ ¬ (255 : Int32) < c1 ∧ ¬ (255 : Int32) < c2 ∧ ¬ (255 : Int32) < c3 ∧ Arv Z h t k .byte 4 [(.int (own_b8 c0)), (.int (own_b8 c1)), (.int (own_b8 c2)), (.int (own_b8 c3))] (.int 0)) ∨ Arv Z h t k .byte 8 [(.int (own_b0 c0)), (.int (own_b1 c0)), (.int (own_b0 c1)), (.int (own_b1 c1)), (.int (own_b0 c2)), (.int (own_b1 c2)), (.int (own_b0 c3)), (.int (own_b1 c3))] (.int 0))
theorem ef_u_c3_4 (m : MethodId) (s' : Addr)  : entryFrame m #[(.ref s'), (.int (0 : Int32)), (.int (4 : Int32))] 6 = mkF m 0 #[.val (.ref s'), .val (.int (0 : Int32)), .val (.int (4 : Int32)), .unset, .unset, .unset] [] := by first | (simp [entryFrame, mkF, argsToLocals, Value.category]; done) | rfl
theorem u_c3_4 (l : Launch) (Z : State) (a0 : Array Value) (hw : TW a0 Z) (ws : List Cond) (s' : Addr) (c0 : Int32) (c1 : Int32) (c2 : Int32) (c3 : Int32) (ks : ClassId) (h0 : Heap) (n0 : Nat) (Z0 : n0 ≤ h0.size) (O : Old Z n0 h0) (SU : US Z) (Vs : Arv Z h0 s' ks .char 4 [(.int c0), (.int c1), (.int c2), (.int c3)] (.int 0)) (hc0 : ¬ c0 < 0 ∧ ¬ (65535 : Int32) < c0) (hc1 : ¬ c1 < 0 ∧ ¬ (65535 : Int32) < c1) (hc2 : ¬ c2 < 0 ∧ ¬ (65535 : Int32) < c2) (hc3 : ¬ c3 < 0 ∧ ¬ (65535 : Int32) < c3) :
    own_MF l Z MN17 jdk_52_method_16_code 6 (some (.array .byte)) ws (own_R 3 2 12 40) #[(.ref s'), (.int (0 : Int32)), (.int (4 : Int32))] h0 (Q_u_c3_4 Z s' c0 c1 c2 c3 ks h0 n0) := by
  have wd := @own_wd _ _ hw
  refine MetFree.of_bodySF (plainFor_of_name pn_java_lang_StringUTF16) hisR ?_
  intro p e s m args below meth c s₁ Bd hml0 hP hK
  obtain ⟨rfl, hZ, hh⟩ := hP
  have hx := Bd.exec
  have hby := Bd.bytes
  have hml : c.maxLocals = 6 := hml0
  have hown : s.vm.findClass "java/lang/StringUTF16" = some m.cls := findClass_of_methodNamed Bd.named
  have hnm := (name_of_methodNamed Bd.named Bd.method).1
  have X0 : Stand p l e (own_R 3 2 12 40) s m #[(.ref s'), (.int (0 : Int32)), (.int (4 : Int32))] below meth c s₁ [] 0 0 := Stand.of_body Bd
  have e0 : s₁.heap = h0 := by rw [← hh, Bd.state]; rfl
  have N0 := Fr.nil n0
  have lts := own_nlt (Vs.lt)
  refine go_of (A := s₁.setTop (entryFrame m #[(.ref s'), (.int (0 : Int32)), (.int (4 : Int32))] 6)) (B := s₁.setTop (mkF m 0 #[.val (.ref s'), .val (.int (0 : Int32)), .val (.int (4 : Int32)), .unset, .unset, .unset] [])) (fun _ kk' => castTop (ef_u_c3_4 m s') kk') ?_
  refine go_of (B := (s₁.setTop (mkF m 1 #[.val (.ref s'), .val (.int (0 : Int32)), .val (.int (4 : Int32)), .unset, .unset, .unset] [(.int (4 : Int32))]))) (fun _ kk => XS.iloadN X0.here hx rfl (hb hby d16_0) rfl kk) ?_
  obtain ⟨T1, h1, k1, X1, e1, E1, A1, st1⟩ := newP X0 hx hZ (wd 21 rfl) e0 (g := (mkF m 1 #[.val (.ref s'), .val (.int (0 : Int32)), .val (.int (4 : Int32)), .unset, .unset, .unset] [(.int (4 : Int32))])) rfl (hb hby d16_1) rfl (by decide) (cap := 4) (by decide) (by decide) (by decide) (by decide)
  obtain ⟨b1, g1⟩ : ∃ z, z = h0.size := ⟨_, rfl⟩
  rw [← g1] at A1 st1
  have hi1 := own_nlt A1.lt
  have sz1 := E1.1
  have V1 : Arv Z h1 b1 k1 .byte (4 : Int32) [(.int (0 : Int32)), (.int (0 : Int32)), (.int (0 : Int32)), (.int (0 : Int32))] (.int (0 : Int32)) := (Arv.new A1 (by decide)).pad (pad_rep [] (.int (0 : Int32)) 4)
  refine go_of (B := (T1.setTop (mkF m 3 #[.val (.ref s'), .val (.int (0 : Int32)), .val (.int (4 : Int32)), .unset, .unset, .unset] [(.ref b1)]))) (st1) ?_
  refine go_of (B := (T1.setTop (mkF m 9 #[.val (.ref s'), .val (.int (0 : Int32)), .val (.int (4 : Int32)), .val (.ref b1), .unset, .unset] [(.int (4 : Int32)), (.int (0 : Int32)), (.ref b1), (.int (0 : Int32)), (.ref s')]))) (fun _ kk => XS.astoreN X1.here hx rfl (hb hby d16_3) rfl rfl rfl (XS.aloadN X1.here hx rfl (hb hby d16_4) rfl rfl (XS.iloadN X1.here hx rfl (hb hby d16_5) rfl (XS.aloadN X1.here hx rfl (hb hby d16_6) rfl rfl (XS.iconst X1.here hx rfl (hb hby d16_7) (XS.iloadN X1.here hx rfl (hb hby d16_8) rfl kk)))))) ?_
  have cf_2 := (Vs.ext E1)
  obtain ⟨_, _, ⟨T3, L3, k3, n3⟩, -, X3, ⟨Lc3, hQ3, l3, y3, z3⟩, st3⟩ := Jvm.LawKit.callS X1 hx (y := MN18) hown (mvT hZ (wd 79 rfl)) (mvT hZ (wd 80 rfl)) (mvT hZ (wd 77 rfl)) (mvT hZ (wd 81 rfl)) (by decide) (backOf (W := 0) (u_c5_4 l Z a0 hw [] s' b1 c0 c1 c2 c3 ks k1 h1 n0 (by omega) cf_2 V1 (by first | omega | exact own_ne (by omega) | exact own_le (by omega)) (by first | omega | exact own_ne (by omega) | exact own_le (by omega))) hZ (wd 81 rfl) (wd 77 rfl) (by decide) (by decide)) (g := (mkF m 9 #[.val (.ref s'), .val (.int (0 : Int32)), .val (.int (4 : Int32)), .val (.ref b1), .unset, .unset] [(.int (4 : Int32)), (.int (0 : Int32)), (.ref b1), (.int (0 : Int32)), (.ref s')])) rfl (by rw [hml]; rfl) (argsL := [(.ref s'), (.int (0 : Int32)), (.ref b1), (.int (0 : Int32)), (.int (4 : Int32))]) (rest := []) (lenOf pd___CI_BII_I rfl) rfl (Nat.le_of_eq rfl) (hb hby d16_9) (fun _ _ => ⟨rfl, e1, (by decide : 1 + 0 ≤ _), (by decide : 4 + 0 ≤ _)⟩)
  dsimp only [Pt.U, Pt.locs, Pt.cells, Pt.slots] at X3 l3 y3 z3 st3 hQ3
  subst l3 y3 z3
  obtain ⟨r3, rfl, N3q, K3, H3⟩ := hQ3
  have N3 := Fr.app N0 N3q
  have sz3 := K3.1
  refine go_of (B := (T3.setTop (mkF m 12 #[.val (.ref s'), .val (.int (0 : Int32)), .val (.int (4 : Int32)), .val (.ref b1), .unset, .unset] [(.int r3)]))) (st3) ?_
  rcases H3 with ⟨rfl, hl0, hl1, hl2, hl3, V3⟩ | ⟨rfl, hg⟩ | ⟨rfl, hg⟩ | ⟨rfl, hg⟩ | ⟨rfl, hg⟩
  · refine go_of (B := (T3.setTop (mkF m 58 #[.val (.ref s'), .val (.int (0 : Int32)), .val (.int (4 : Int32)), .val (.ref b1), .val (.int (4 : Int32)), .unset] [(.ref b1)]))) (fun _ kk => XS.istore X3.here hx rfl (hb hby d16_12) rfl rfl (XS.iload X3.here hx rfl (hb hby d16_14) rfl (XS.iloadN X3.here hx rfl (hb hby d16_16) rfl (XS.icmpYes X3.here hx rfl (pc0 := 17) (pc' := 57) rfl (hb hby d16_17) rfl (teq (by decide : (4 : Int32) = (4 : Int32))).1 (by decide) (by decide) (XS.aloadN X3.here hx rfl (hb hby d16_57) rfl rfl kk))))) ?_
    refine go_end X3 (v := some (.ref b1)) (fun h => by rw [Bd.returns] at h; cases h) Bd.notSynchronized (by decide) (by decide) (Q := (Q_u_c3_4 Z s' c0 c1 c2 c3 ks h0 n0)) ?_ (fun fs hr => own_retA X3 hx Bd.returns rfl rfl (hb hby d16_58) hr)
    unfold Q_u_c3_4
    exact ⟨b1, k1, rfl, N3, by omega, (((Keep.refl h0 []).ext E1).trans K3 (allS (Or.inr (by first | omega | exact own_ne (by omega) | exact own_le (by omega))) all0)), Or.inl ⟨hl0, hl1, hl2, hl3, V3⟩⟩
  · refine go_of (B := (T3.setTop (mkF m 22 #[.val (.ref s'), .val (.int (0 : Int32)), .val (.int (4 : Int32)), .val (.ref b1), .val (.int (0 : Int32)), .unset] [(.int (0 : Int32)), (.ref s')]))) (fun _ kk => XS.istore X3.here hx rfl (hb hby d16_12) rfl rfl (XS.iload X3.here hx rfl (hb hby d16_14) rfl (XS.iloadN X3.here hx rfl (hb hby d16_16) rfl (XS.icmpNo X3.here hx rfl (hb hby d16_17) rfl (feq (by decide : ¬ ((0 : Int32) = (4 : Int32)))).1 (XS.aloadN X3.here hx rfl (hb hby d16_20) rfl rfl (XS.iloadN X3.here hx rfl (hb hby d16_21) rfl kk)))))) ?_
    refine go_of (B := (T3.setTop (mkF m 23 #[.val (.ref s'), .val (.int (0 : Int32)), .val (.int (4 : Int32)), .val (.ref b1), .val (.int (0 : Int32)), .unset] [(.int (4 : Int32)), (.int (0 : Int32)), (.ref s')]))) (fun _ kk => XS.iloadN X3.here hx rfl (hb hby d16_22) rfl kk) ?_
    have cf_4 := ((O.ext E1).keep K3 (allS (by first | omega | exact own_ne (by omega) | exact own_le (by omega)) all0))
    have cf_5 := (cf_2.keep K3 (ninS (by first | omega | exact own_ne (by omega) | exact own_le (by omega)) nin0))
    obtain ⟨_, _, ⟨T6, L6, k6, n6⟩, -, X6, ⟨Lc6, hQ6, l6, y6, z6⟩, st6⟩ := Jvm.LawKit.callS X3 hx (y := MN26) hown (mvT hZ (wd 88 rfl)) (mvT hZ (wd 89 rfl)) (mvT hZ (wd 77 rfl)) (mvT hZ (wd 90 rfl)) (by decide) (backOf (W := 0) (u_tob_4 l Z a0 hw [] s' c0 c1 c2 c3 ks T3.heap n0 (by omega) cf_4 SU cf_5) hZ (wd 90 rfl) (wd 77 rfl) (by decide) (by decide)) (g := (mkF m 23 #[.val (.ref s'), .val (.int (0 : Int32)), .val (.int (4 : Int32)), .val (.ref b1), .val (.int (0 : Int32)), .unset] [(.int (4 : Int32)), (.int (0 : Int32)), (.ref s')])) rfl (by rw [hml]; rfl) (argsL := [(.ref s'), (.int (0 : Int32)), (.int (4 : Int32))]) (rest := []) (lenOf pd___CII__B rfl) rfl (Nat.le_of_eq rfl) (hb hby d16_23) (fun _ _ => ⟨rfl, rfl, (by decide : 1 + 1 ≤ _), (by decide : 4 + 8 ≤ _)⟩)
    dsimp only [Pt.U, Pt.locs, Pt.cells, Pt.slots] at X6 l6 y6 z6 st6 hQ6
    subst l6 y6 z6
    obtain ⟨b6, k6, rfl, N6q, lo6, K6, V6⟩ := hQ6
    have lo6 := own_nle lo6
    have N6 := Fr.app N3 N6q
    have hi6 := own_nlt (V6.lt)
    have sz6 := K6.1
    refine go_of (B := (T6.setTop (mkF m 26 #[.val (.ref s'), .val (.int (0 : Int32)), .val (.int (4 : Int32)), .val (.ref b1), .val (.int (0 : Int32)), .unset] [(.ref b6)]))) (st6) ?_
    refine go_of (B := (T6.setTop (mkF m 32 #[.val (.ref s'), .val (.int (0 : Int32)), .val (.int (4 : Int32)), .val (.ref b1), .val (.int (0 : Int32)), .val (.ref b6)] [(.int (0 : Int32)), (.ref b6)]))) (fun _ kk => XS.astore X6.here hx rfl (hb hby d16_26) rfl rfl rfl (XS.aload X6.here hx rfl (hb hby d16_28) rfl rfl (XS.iload X6.here hx rfl (hb hby d16_30) rfl kk))) ?_
    have cf_7 := (cf_4.keep K6 all0)
    obtain ⟨_, _, ⟨T8, L8, k8, n8⟩, -, X8, ⟨Lc8, hQ8, l8, y8, z8⟩, st8⟩ := Jvm.LawKit.callS X6 hx (y := MN19) hown (mvT hZ (wd 104 rfl)) (mvT hZ (wd 105 rfl)) (mvT hZ (wd 77 rfl)) (mvT hZ (wd 106 rfl)) (by decide) (backOf (W := 0) (u_get l Z a0 hw [] b6 (0 : Int32) (8 : Int32) _ c0 k6 T6.heap n0 (by omega) cf_7 SU V6 (by decide) (by decide) rfl rfl hc0) hZ (wd 106 rfl) (wd 77 rfl) (by decide) (by decide)) (g := (mkF m 32 #[.val (.ref s'), .val (.int (0 : Int32)), .val (.int (4 : Int32)), .val (.ref b1), .val (.int (0 : Int32)), .val (.ref b6)] [(.int (0 : Int32)), (.ref b6)])) rfl (by rw [hml]; rfl) (argsL := [(.ref b6), (.int (0 : Int32))]) (rest := []) (lenOf pd___BI_C rfl) rfl (Nat.le_of_eq rfl) (hb hby d16_32) (fun _ _ => ⟨rfl, rfl, (by decide : 2 + 0 ≤ _), (by decide : 12 + 0 ≤ _)⟩)
    dsimp only [Pt.U, Pt.locs, Pt.cells, Pt.slots] at X8 l8 y8 z8 st8 hQ8
    subst l8 y8 z8
    obtain ⟨rfl, N8q, e8⟩ := hQ8
    have N8 := Fr.app N6 N8q
    refine go_of (B := (T8.setTop (mkF m 35 #[.val (.ref s'), .val (.int (0 : Int32)), .val (.int (4 : Int32)), .val (.ref b1), .val (.int (0 : Int32)), .val (.ref b6)] [(.int c0)]))) (st8) ?_
    refine go_of (B := (T8.setTop (mkF m 56 #[.val (.ref s'), .val (.int (0 : Int32)), .val (.int (4 : Int32)), .val (.ref b1), .val (.int (0 : Int32)), .val (.ref b6)] [(.ref b6)]))) (fun _ kk => XS.sipush X8.here hx rfl (hb hby d16_35) (XS.icmpYes X8.here hx rfl (pc0 := 38) (pc' := 54) rfl (hb hby d16_38) rfl (tlt hg).2.2.1 (by decide) (by decide) (XS.aload X8.here hx rfl (hb hby d16_54) rfl rfl kk))) ?_
    refine go_end X8 (v := some (.ref b6)) (fun h => by rw [Bd.returns] at h; cases h) Bd.notSynchronized (by decide) (by decide) (Q := (Q_u_c3_4 Z s' c0 c1 c2 c3 ks h0 n0)) ?_ (fun fs hr => own_retA X8 hx Bd.returns rfl rfl (hb hby d16_56) hr)
    unfold Q_u_c3_4
    try rw [e8]
    exact ⟨b6, k6, rfl, N8, by omega, ((((Keep.refl h0 []).ext E1).trans K3 (allS (Or.inr (by first | omega | exact own_ne (by omega) | exact own_le (by omega))) all0)).trans K6 all0), Or.inr V6⟩
  · refine go_of (B := (T3.setTop (mkF m 22 #[.val (.ref s'), .val (.int (0 : Int32)), .val (.int (4 : Int32)), .val (.ref b1), .val (.int (1 : Int32)), .unset] [(.int (0 : Int32)), (.ref s')]))) (fun _ kk => XS.istore X3.here hx rfl (hb hby d16_12) rfl rfl (XS.iload X3.here hx rfl (hb hby d16_14) rfl (XS.iloadN X3.here hx rfl (hb hby d16_16) rfl (XS.icmpNo X3.here hx rfl (hb hby d16_17) rfl (feq (by decide : ¬ ((1 : Int32) = (4 : Int32)))).1 (XS.aloadN X3.here hx rfl (hb hby d16_20) rfl rfl (XS.iloadN X3.here hx rfl (hb hby d16_21) rfl kk)))))) ?_
    refine go_of (B := (T3.setTop (mkF m 23 #[.val (.ref s'), .val (.int (0 : Int32)), .val (.int (4 : Int32)), .val (.ref b1), .val (.int (1 : Int32)), .unset] [(.int (4 : Int32)), (.int (0 : Int32)), (.ref s')]))) (fun _ kk => XS.iloadN X3.here hx rfl (hb hby d16_22) rfl kk) ?_
    have cf_9 := ((O.ext E1).keep K3 (allS (by first | omega | exact own_ne (by omega) | exact own_le (by omega)) all0))
    have cf_10 := (cf_2.keep K3 (ninS (by first | omega | exact own_ne (by omega) | exact own_le (by omega)) nin0))
    obtain ⟨_, _, ⟨T11, L11, k11, n11⟩, -, X11, ⟨Lc11, hQ11, l11, y11, z11⟩, st11⟩ := Jvm.LawKit.callS X3 hx (y := MN26) hown (mvT hZ (wd 88 rfl)) (mvT hZ (wd 89 rfl)) (mvT hZ (wd 77 rfl)) (mvT hZ (wd 90 rfl)) (by decide) (backOf (W := 0) (u_tob_4 l Z a0 hw [] s' c0 c1 c2 c3 ks T3.heap n0 (by omega) cf_9 SU cf_10) hZ (wd 90 rfl) (wd 77 rfl) (by decide) (by decide)) (g := (mkF m 23 #[.val (.ref s'), .val (.int (0 : Int32)), .val (.int (4 : Int32)), .val (.ref b1), .val (.int (1 : Int32)), .unset] [(.int (4 : Int32)), (.int (0 : Int32)), (.ref s')])) rfl (by rw [hml]; rfl) (argsL := [(.ref s'), (.int (0 : Int32)), (.int (4 : Int32))]) (rest := []) (lenOf pd___CII__B rfl) rfl (Nat.le_of_eq rfl) (hb hby d16_23) (fun _ _ => ⟨rfl, rfl, (by decide : 1 + 1 ≤ _), (by decide : 4 + 8 ≤ _)⟩)
    dsimp only [Pt.U, Pt.locs, Pt.cells, Pt.slots] at X11 l11 y11 z11 st11 hQ11
    subst l11 y11 z11
    obtain ⟨b11, k11, rfl, N11q, lo11, K11, V11⟩ := hQ11
    have lo11 := own_nle lo11
    have N11 := Fr.app N3 N11q
    have hi11 := own_nlt (V11.lt)
    have sz11 := K11.1
    refine go_of (B := (T11.setTop (mkF m 26 #[.val (.ref s'), .val (.int (0 : Int32)), .val (.int (4 : Int32)), .val (.ref b1), .val (.int (1 : Int32)), .unset] [(.ref b11)]))) (st11) ?_
    refine go_of (B := (T11.setTop (mkF m 32 #[.val (.ref s'), .val (.int (0 : Int32)), .val (.int (4 : Int32)), .val (.ref b1), .val (.int (1 : Int32)), .val (.ref b11)] [(.int (1 : Int32)), (.ref b11)]))) (fun _ kk => XS.astore X11.here hx rfl (hb hby d16_26) rfl rfl rfl (XS.aload X11.here hx rfl (hb hby d16_28) rfl rfl (XS.iload X11.here hx rfl (hb hby d16_30) rfl kk))) ?_
    have cf_12 := (cf_9.keep K11 all0)
    obtain ⟨_, _, ⟨T13, L13, k13, n13⟩, -, X13, ⟨Lc13, hQ13, l13, y13, z13⟩, st13⟩ := Jvm.LawKit.callS X11 hx (y := MN19) hown (mvT hZ (wd 104 rfl)) (mvT hZ (wd 105 rfl)) (mvT hZ (wd 77 rfl)) (mvT hZ (wd 106 rfl)) (by decide) (backOf (W := 0) (u_get l Z a0 hw [] b11 (1 : Int32) (8 : Int32) _ c1 k11 T11.heap n0 (by omega) cf_12 SU V11 (by decide) (by decide) rfl rfl hc1) hZ (wd 106 rfl) (wd 77 rfl) (by decide) (by decide)) (g := (mkF m 32 #[.val (.ref s'), .val (.int (0 : Int32)), .val (.int (4 : Int32)), .val (.ref b1), .val (.int (1 : Int32)), .val (.ref b11)] [(.int (1 : Int32)), (.ref b11)])) rfl (by rw [hml]; rfl) (argsL := [(.ref b11), (.int (1 : Int32))]) (rest := []) (lenOf pd___BI_C rfl) rfl (Nat.le_of_eq rfl) (hb hby d16_32) (fun _ _ => ⟨rfl, rfl, (by decide : 2 + 0 ≤ _), (by decide : 12 + 0 ≤ _)⟩)
    dsimp only [Pt.U, Pt.locs, Pt.cells, Pt.slots] at X13 l13 y13 z13 st13 hQ13
    subst l13 y13 z13
    obtain ⟨rfl, N13q, e13⟩ := hQ13
    have N13 := Fr.app N11 N13q
    refine go_of (B := (T13.setTop (mkF m 35 #[.val (.ref s'), .val (.int (0 : Int32)), .val (.int (4 : Int32)), .val (.ref b1), .val (.int (1 : Int32)), .val (.ref b11)] [(.int c1)]))) (st13) ?_
    refine go_of (B := (T13.setTop (mkF m 56 #[.val (.ref s'), .val (.int (0 : Int32)), .val (.int (4 : Int32)), .val (.ref b1), .val (.int (1 : Int32)), .val (.ref b11)] [(.ref b11)]))) (fun _ kk => XS.sipush X13.here hx rfl (hb hby d16_35) (XS.icmpYes X13.here hx rfl (pc0 := 38) (pc' := 54) rfl (hb hby d16_38) rfl (tlt hg).2.2.1 (by decide) (by decide) (XS.aload X13.here hx rfl (hb hby d16_54) rfl rfl kk))) ?_
    refine go_end X13 (v := some (.ref b11)) (fun h => by rw [Bd.returns] at h; cases h) Bd.notSynchronized (by decide) (by decide) (Q := (Q_u_c3_4 Z s' c0 c1 c2 c3 ks h0 n0)) ?_ (fun fs hr => own_retA X13 hx Bd.returns rfl rfl (hb hby d16_56) hr)
    unfold Q_u_c3_4
    try rw [e13]
    exact ⟨b11, k11, rfl, N13, by omega, ((((Keep.refl h0 []).ext E1).trans K3 (allS (Or.inr (by first | omega | exact own_ne (by omega) | exact own_le (by omega))) all0)).trans K11 all0), Or.inr V11⟩
  · refine go_of (B := (T3.setTop (mkF m 22 #[.val (.ref s'), .val (.int (0 : Int32)), .val (.int (4 : Int32)), .val (.ref b1), .val (.int (2 : Int32)), .unset] [(.int (0 : Int32)), (.ref s')]))) (fun _ kk => XS.istore X3.here hx rfl (hb hby d16_12) rfl rfl (XS.iload X3.here hx rfl (hb hby d16_14) rfl (XS.iloadN X3.here hx rfl (hb hby d16_16) rfl (XS.icmpNo X3.here hx rfl (hb hby d16_17) rfl (feq (by decide : ¬ ((2 : Int32) = (4 : Int32)))).1 (XS.aloadN X3.here hx rfl (hb hby d16_20) rfl rfl (XS.iloadN X3.here hx rfl (hb hby d16_21) rfl kk)))))) ?_
    refine go_of (B := (T3.setTop (mkF m 23 #[.val (.ref s'), .val (.int (0 : Int32)), .val (.int (4 : Int32)), .val (.ref b1), .val (.int (2 : Int32)), .unset] [(.int (4 : Int32)), (.int (0 : Int32)), (.ref s')]))) (fun _ kk => XS.iloadN X3.here hx rfl (hb hby d16_22) rfl kk) ?_
    have cf_14 := ((O.ext E1).keep K3 (allS (by first | omega | exact own_ne (by omega) | exact own_le (by omega)) all0))
    have cf_15 := (cf_2.keep K3 (ninS (by first | omega | exact own_ne (by omega) | exact own_le (by omega)) nin0))
    obtain ⟨_, _, ⟨T16, L16, k16, n16⟩, -, X16, ⟨Lc16, hQ16, l16, y16, z16⟩, st16⟩ := Jvm.LawKit.callS X3 hx (y := MN26) hown (mvT hZ (wd 88 rfl)) (mvT hZ (wd 89 rfl)) (mvT hZ (wd 77 rfl)) (mvT hZ (wd 90 rfl)) (by decide) (backOf (W := 0) (u_tob_4 l Z a0 hw [] s' c0 c1 c2 c3 ks T3.heap n0 (by omega) cf_14 SU cf_15) hZ (wd 90 rfl) (wd 77 rfl) (by decide) (by decide)) (g := (mkF m 23 #[.val (.ref s'), .val (.int (0 : Int32)), .val (.int (4 : Int32)), .val (.ref b1), .val (.int (2 : Int32)), .unset] [(.int (4 : Int32)), (.int (0 : Int32)), (.ref s')])) rfl (by rw [hml]; rfl) (argsL := [(.ref s'), (.int (0 : Int32)), (.int (4 : Int32))]) (rest := []) (lenOf pd___CII__B rfl) rfl (Nat.le_of_eq rfl) (hb hby d16_23) (fun _ _ => ⟨rfl, rfl, (by decide : 1 + 1 ≤ _), (by decide : 4 + 8 ≤ _)⟩)
    dsimp only [Pt.U, Pt.locs, Pt.cells, Pt.slots] at X16 l16 y16 z16 st16 hQ16
    subst l16 y16 z16
    obtain ⟨b16, k16, rfl, N16q, lo16, K16, V16⟩ := hQ16
    have lo16 := own_nle lo16
    have N16 := Fr.app N3 N16q
    have hi16 := own_nlt (V16.lt)
    have sz16 := K16.1
    refine go_of (B := (T16.setTop (mkF m 26 #[.val (.ref s'), .val (.int (0 : Int32)), .val (.int (4 : Int32)), .val (.ref b1), .val (.int (2 : Int32)), .unset] [(.ref b16)]))) (st16) ?_
    refine go_of (B := (T16.setTop (mkF m 32 #[.val (.ref s'), .val (.int (0 : Int32)), .val (.int (4 : Int32)), .val (.ref b1), .val (.int (2 : Int32)), .val (.ref b16)] [(.int (2 : Int32)), (.ref b16)]))) (fun _ kk => XS.astore X16.here hx rfl (hb hby d16_26) rfl rfl rfl (XS.aload X16.here hx rfl (hb hby d16_28) rfl rfl (XS.iload X16.here hx rfl (hb hby d16_30) rfl kk))) ?_
    have cf_17 := (cf_14.keep K16 all0)
    obtain ⟨_, _, ⟨T18, L18, k18, n18⟩, -, X18, ⟨Lc18, hQ18, l18, y18, z18⟩, st18⟩ := Jvm.LawKit.callS X16 hx (y := MN19) hown (mvT hZ (wd 104 rfl)) (mvT hZ (wd 105 rfl)) (mvT hZ (wd 77 rfl)) (mvT hZ (wd 106 rfl)) (by decide) (backOf (W := 0) (u_get l Z a0 hw [] b16 (2 : Int32) (8 : Int32) _ c2 k16 T16.heap n0 (by omega) cf_17 SU V16 (by decide) (by decide) rfl rfl hc2) hZ (wd 106 rfl) (wd 77 rfl) (by decide) (by decide)) (g := (mkF m 32 #[.val (.ref s'), .val (.int (0 : Int32)), .val (.int (4 : Int32)), .val (.ref b1), .val (.int (2 : Int32)), .val (.ref b16)] [(.int (2 : Int32)), (.ref b16)])) rfl (by rw [hml]; rfl) (argsL := [(.ref b16), (.int (2 : Int32))]) (rest := []) (lenOf pd___BI_C rfl) rfl (Nat.le_of_eq rfl) (hb hby d16_32) (fun _ _ => ⟨rfl, rfl, (by decide : 2 + 0 ≤ _), (by decide : 12 + 0 ≤ _)⟩)
    dsimp only [Pt.U, Pt.locs, Pt.cells, Pt.slots] at X18 l18 y18 z18 st18 hQ18
    subst l18 y18 z18
    obtain ⟨rfl, N18q, e18⟩ := hQ18
    have N18 := Fr.app N16 N18q
    refine go_of (B := (T18.setTop (mkF m 35 #[.val (.ref s'), .val (.int (0 : Int32)), .val (.int (4 : Int32)), .val (.ref b1), .val (.int (2 : Int32)), .val (.ref b16)] [(.int c2)]))) (st18) ?_
    refine go_of (B := (T18.setTop (mkF m 56 #[.val (.ref s'), .val (.int (0 : Int32)), .val (.int (4 : Int32)), .val (.ref b1), .val (.int (2 : Int32)), .val (.ref b16)] [(.ref b16)]))) (fun _ kk => XS.sipush X18.here hx rfl (hb hby d16_35) (XS.icmpYes X18.here hx rfl (pc0 := 38) (pc' := 54) rfl (hb hby d16_38) rfl (tlt hg).2.2.1 (by decide) (by decide) (XS.aload X18.here hx rfl (hb hby d16_54) rfl rfl kk))) ?_
    refine go_end X18 (v := some (.ref b16)) (fun h => by rw [Bd.returns] at h; cases h) Bd.notSynchronized (by decide) (by decide) (Q := (Q_u_c3_4 Z s' c0 c1 c2 c3 ks h0 n0)) ?_ (fun fs hr => own_retA X18 hx Bd.returns rfl rfl (hb hby d16_56) hr)
    unfold Q_u_c3_4
    try rw [e18]
    exact ⟨b16, k16, rfl, N18, by omega, ((((Keep.refl h0 []).ext E1).trans K3 (allS (Or.inr (by first | omega | exact own_ne (by omega) | exact own_le (by omega))) all0)).trans K16 all0), Or.inr V16⟩
  · refine go_of (B := (T3.setTop (mkF m 22 #[.val (.ref s'), .val (.int (0 : Int32)), .val (.int (4 : Int32)), .val (.ref b1), .val (.int (3 : Int32)), .unset] [(.int (0 : Int32)), (.ref s')]))) (fun _ kk => XS.istore X3.here hx rfl (hb hby d16_12) rfl rfl (XS.iload X3.here hx rfl (hb hby d16_14) rfl (XS.iloadN X3.here hx rfl (hb hby d16_16) rfl (XS.icmpNo X3.here hx rfl (hb hby d16_17) rfl (feq (by decide : ¬ ((3 : Int32) = (4 : Int32)))).1 (XS.aloadN X3.here hx rfl (hb hby d16_20) rfl rfl (XS.iloadN X3.here hx rfl (hb hby d16_21) rfl kk)))))) ?_
    refine go_of (B := (T3.setTop (mkF m 23 #[.val (.ref s'), .val (.int (0 : Int32)), .val (.int (4 : Int32)), .val (.ref b1), .val (.int (3 : Int32)), .unset] [(.int (4 : Int32)), (.int (0 : Int32)), (.ref s')]))) (fun _ kk => XS.iloadN X3.here hx rfl (hb hby d16_22) rfl kk) ?_
    have cf_19 := ((O.ext E1).keep K3 (allS (by first | omega | exact own_ne (by omega) | exact own_le (by omega)) all0))
    have cf_20 := (cf_2.keep K3 (ninS (by first | omega | exact own_ne (by omega) | exact own_le (by omega)) nin0))
    obtain ⟨_, _, ⟨T21, L21, k21, n21⟩, -, X21, ⟨Lc21, hQ21, l21, y21, z21⟩, st21⟩ := Jvm.LawKit.callS X3 hx (y := MN26) hown (mvT hZ (wd 88 rfl)) (mvT hZ (wd 89 rfl)) (mvT hZ (wd 77 rfl)) (mvT hZ (wd 90 rfl)) (by decide) (backOf (W := 0) (u_tob_4 l Z a0 hw [] s' c0 c1 c2 c3 ks T3.heap n0 (by omega) cf_19 SU cf_20) hZ (wd 90 rfl) (wd 77 rfl) (by decide) (by decide)) (g := (mkF m 23 #[.val (.ref s'), .val (.int (0 : Int32)), .val (.int (4 : Int32)), .val (.ref b1), .val (.int (3 : Int32)), .unset] [(.int (4 : Int32)), (.int (0 : Int32)), (.ref s')])) rfl (by rw [hml]; rfl) (argsL := [(.ref s'), (.int (0 : Int32)), (.int (4 : Int32))]) (rest := []) (lenOf pd___CII__B rfl) rfl (Nat.le_of_eq rfl) (hb hby d16_23) (fun _ _ => ⟨rfl, rfl, (by decide : 1 + 1 ≤ _), (by decide : 4 + 8 ≤ _)⟩)
    dsimp only [Pt.U, Pt.locs, Pt.cells, Pt.slots] at X21 l21 y21 z21 st21 hQ21
    subst l21 y21 z21
    obtain ⟨b21, k21, rfl, N21q, lo21, K21, V21⟩ := hQ21
    have lo21 := own_nle lo21
    have N21 := Fr.app N3 N21q
    have hi21 := own_nlt (V21.lt)
    have sz21 := K21.1
    refine go_of (B := (T21.setTop (mkF m 26 #[.val (.ref s'), .val (.int (0 : Int32)), .val (.int (4 : Int32)), .val (.ref b1), .val (.int (3 : Int32)), .unset] [(.ref b21)]))) (st21) ?_
    refine go_of (B := (T21.setTop (mkF m 32 #[.val (.ref s'), .val (.int (0 : Int32)), .val (.int (4 : Int32)), .val (.ref b1), .val (.int (3 : Int32)), .val (.ref b21)] [(.int (3 : Int32)), (.ref b21)]))) (fun _ kk => XS.astore X21.here hx rfl (hb hby d16_26) rfl rfl rfl (XS.aload X21.here hx rfl (hb hby d16_28) rfl rfl (XS.iload X21.here hx rfl (hb hby d16_30) rfl kk))) ?_
    have cf_22 := (cf_19.keep K21 all0)
    obtain ⟨_, _, ⟨T23, L23, k23, n23⟩, -, X23, ⟨Lc23, hQ23, l23, y23, z23⟩, st23⟩ := Jvm.LawKit.callS X21 hx (y := MN19) hown (mvT hZ (wd 104 rfl)) (mvT hZ (wd 105 rfl)) (mvT hZ (wd 77 rfl)) (mvT hZ (wd 106 rfl)) (by decide) (backOf (W := 0) (u_get l Z a0 hw [] b21 (3 : Int32) (8 : Int32) _ c3 k21 T21.heap n0 (by omega) cf_22 SU V21 (by decide) (by decide) rfl rfl hc3) hZ (wd 106 rfl) (wd 77 rfl) (by decide) (by decide)) (g := (mkF m 32 #[.val (.ref s'), .val (.int (0 : Int32)), .val (.int (4 : Int32)), .val (.ref b1), .val (.int (3 : Int32)), .val (.ref b21)] [(.int (3 : Int32)), (.ref b21)])) rfl (by rw [hml]; rfl) (argsL := [(.ref b21), (.int (3 : Int32))]) (rest := []) (lenOf pd___BI_C rfl) rfl (Nat.le_of_eq rfl) (hb hby d16_32) (fun _ _ => ⟨rfl, rfl, (by decide : 2 + 0 ≤ _), (by decide : 12 + 0 ≤ _)⟩)
    dsimp only [Pt.U, Pt.locs, Pt.cells, Pt.slots] at X23 l23 y23 z23 st23 hQ23
    subst l23 y23 z23
    obtain ⟨rfl, N23q, e23⟩ := hQ23
    have N23 := Fr.app N21 N23q
    refine go_of (B := (T23.setTop (mkF m 35 #[.val (.ref s'), .val (.int (0 : Int32)), .val (.int (4 : Int32)), .val (.ref b1), .val (.int (3 : Int32)), .val (.ref b21)] [(.int c3)]))) (st23) ?_
    refine go_of (B := (T23.setTop (mkF m 56 #[.val (.ref s'), .val (.int (0 : Int32)), .val (.int (4 : Int32)), .val (.ref b1), .val (.int (3 : Int32)), .val (.ref b21)] [(.ref b21)]))) (fun _ kk => XS.sipush X23.here hx rfl (hb hby d16_35) (XS.icmpYes X23.here hx rfl (pc0 := 38) (pc' := 54) rfl (hb hby d16_38) rfl (tlt hg).2.2.1 (by decide) (by decide) (XS.aload X23.here hx rfl (hb hby d16_54) rfl rfl kk))) ?_
    refine go_end X23 (v := some (.ref b21)) (fun h => by rw [Bd.returns] at h; cases h) Bd.notSynchronized (by decide) (by decide) (Q := (Q_u_c3_4 Z s' c0 c1 c2 c3 ks h0 n0)) ?_ (fun fs hr => own_retA X23 hx Bd.returns rfl rfl (hb hby d16_56) hr)
    unfold Q_u_c3_4
    try rw [e23]
    exact ⟨b21, k21, rfl, N23, by omega, ((((Keep.refl h0 []).ext E1).trans K3 (allS (Or.inr (by first | omega | exact own_ne (by omega) | exact own_le (by omega))) all0)).trans K21 all0), Or.inr V21⟩
def Q_str_cf_4 (Z : State) (t : Addr) (k : ClassId) (vs : List Value) (h0 : Heap) (n0 : Nat) (v : Option Value) (h : Heap) (L : List Loc) : Prop := v = some (.int 0) ∧ Fr n0 L ∧ h = h0
theorem ef_str_cf_4 (m : MethodId) (t : Addr)  : entryFrame m #[(.ref t), (.int (4 : Int32))] 2 = mkF m 0 #[.val (.ref t), .val (.int (4 : Int32))] [] := by first | (simp [entryFrame, mkF, argsToLocals, Value.category]; done) | rfl
theorem str_cf_4 (l : Launch) (Z : State) (a0 : Array Value) (hw : TW a0 Z) (ws : List Cond) (t : Addr) (k : ClassId) (vs : List Value) (h0 : Heap) (n0 : Nat) (Z0 : n0 ≤ h0.size) (V : Arv Z h0 t k .byte 4 vs (.int 0)) :
    own_MF l Z MN16 jdk_52_method_15_code 2 (some .byte) ws (own_R 0 0 0 0) #[(.ref t), (.int (4 : Int32))] h0 (Q_str_cf_4 Z t k vs h0 n0) := by
  have wd := @own_wd _ _ hw
  refine MetFree.of_bodySF (plainFor_of_name pn_java_lang_StringUTF16) hisR ?_
  intro p e s m args below meth c s₁ Bd hml0 hP hK
  obtain ⟨rfl, hZ, hh⟩ := hP
  have hx := Bd.exec
  have hby := Bd.bytes
  have hml : c.maxLocals = 2 := hml0
  have hown : s.vm.findClass "java/lang/StringUTF16" = some m.cls := findClass_of_methodNamed Bd.named
  have hnm := (name_of_methodNamed Bd.named Bd.method).1
  have X0 : Stand p l e (own_R 0 0 0 0) s m #[(.ref t), (.int (4 : Int32))] below meth c s₁ [] 0 0 := Stand.of_body Bd
  have e0 : s₁.heap = h0 := by rw [← hh, Bd.state]; rfl
  have N0 := Fr.nil n0
  refine go_of (A := s₁.setTop (entryFrame m #[(.ref t), (.int (4 : Int32))] 2)) (B := s₁.setTop (mkF m 0 #[.val (.ref t), .val (.int (4 : Int32))] [])) (fun _ kk' => castTop (ef_str_cf_4 m t) kk') ?_
  refine go_of (B := (s₁.setTop (mkF m 2 #[.val (.ref t), .val (.int (4 : Int32))] [(.ref t), (.int (4 : Int32))]))) (fun _ kk => XS.iloadN X0.here hx rfl (hb hby d18_0) rfl (XS.aloadN X0.here hx rfl (hb hby d18_1) rfl rfl kk)) ?_
  obtain ⟨cl1, Ar1, q1, Sz1, Nn1, Hh1, G1⟩ := id (V)
  have ln1 := len_of Sz1 Nn1
  refine go_of (B := (s₁.setTop (mkF m 3 #[.val (.ref t), .val (.int (4 : Int32))] [(.int (4 : Int32)), (.int (4 : Int32))]))) (fun _ kk => X0.arraylength hx (by rw [e0]; exact Ar1.1) (State.isArrayOf_alike hZ.alike Ar1.2.1) (g := (mkF m 2 #[.val (.ref t), .val (.int (4 : Int32))] [(.ref t), (.int (4 : Int32))])) rfl rfl (hb hby d18_2) _ (by rw [ln1]; exact kk)) ?_
  refine go_of (B := (s₁.setTop (mkF m 8 #[.val (.ref t), .val (.int (4 : Int32))] [(.int (0 : Int32))]))) (fun _ kk => XS.isub X0.here hx rfl (hb hby d18_3) rfl (XS.bipush X0.here hx rfl (hb hby d18_4) (XS.iushr X0.here hx rfl (hb hby d18_6) rfl (XS.i2b X0.here hx rfl (hb hby d18_7) rfl kk)))) ?_
  refine go_end X0 (v := some (.int (nar .byte (0 : Int32)))) (fun h => by rw [Bd.returns] at h; cases h) Bd.notSynchronized (by decide) (by decide) (Q := (Q_str_cf_4 Z t k vs h0 n0)) ?_ (fun fs hr => retN X0 hx (t := .byte) Bd.returns (by simp) (hb hby d18_8) hr)
  unfold Q_str_cf_4
  try rw [e0]
  exact ⟨rfl, N0, rfl⟩
def Q_u_cf_4 (Z : State) (t : Addr) (k : ClassId) (vs : List Value) (h0 : Heap) (n0 : Nat) (v : Option Value) (h : Heap) (L : List Loc) : Prop := v = some (.int 1) ∧ Fr n0 L ∧ h = h0
theorem ef_u_cf_4 (m : MethodId) (t : Addr)  : entryFrame m #[(.ref t), (.int (4 : Int32))] 2 = mkF m 0 #[.val (.ref t), .val (.int (4 : Int32))] [] := by first | (simp [entryFrame, mkF, argsToLocals, Value.category]; done) | rfl
theorem u_cf_4 (l : Launch) (Z : State) (a0 : Array Value) (hw : TW a0 Z) (ws : List Cond) (t : Addr) (k : ClassId) (vs : List Value) (h0 : Heap) (n0 : Nat) (Z0 : n0 ≤ h0.size) (V : Arv Z h0 t k .byte 8 vs (.int 0)) :
    own_MF l Z MN16 jdk_52_method_15_code 2 (some .byte) ws (own_R 0 0 0 0) #[(.ref t), (.int (4 : Int32))] h0 (Q_u_cf_4 Z t k vs h0 n0) := by
  have wd := @own_wd _ _ hw
  refine MetFree.of_bodySF (plainFor_of_name pn_java_lang_StringUTF16) hisR ?_
  intro p e s m args below meth c s₁ Bd hml0 hP hK
  obtain ⟨rfl, hZ, hh⟩ := hP
  have hx := Bd.exec
  have hby := Bd.bytes
  have hml : c.maxLocals = 2 := hml0
  have hown : s.vm.findClass "java/lang/StringUTF16" = some m.cls := findClass_of_methodNamed Bd.named
  have hnm := (name_of_methodNamed Bd.named Bd.method).1
  have X0 : Stand p l e (own_R 0 0 0 0) s m #[(.ref t), (.int (4 : Int32))] below meth c s₁ [] 0 0 := Stand.of_body Bd
  have e0 : s₁.heap = h0 := by rw [← hh, Bd.state]; rfl
  have N0 := Fr.nil n0
  refine go_of (A := s₁.setTop (entryFrame m #[(.ref t), (.int (4 : Int32))] 2)) (B := s₁.setTop (mkF m 0 #[.val (.ref t), .val (.int (4 : Int32))] [])) (fun _ kk' => castTop (ef_u_cf_4 m t) kk') ?_
  refine go_of (B := (s₁.setTop (mkF m 2 #[.val (.ref t), .val (.int (4 : Int32))] [(.ref t), (.int (4 : Int32))]))) (fun _ kk => XS.iloadN X0.here hx rfl (hb hby d18_0) rfl (XS.aloadN X0.here hx rfl (hb hby d18_1) rfl rfl kk)) ?_
  obtain ⟨cl1, Ar1, q1, Sz1, Nn1, Hh1, G1⟩ := id (V)
  have ln1 := len_of Sz1 Nn1
  refine go_of (B := (s₁.setTop (mkF m 3 #[.val (.ref t), .val (.int (4 : Int32))] [(.int (8 : Int32)), (.int (4 : Int32))]))) (fun _ kk => X0.arraylength hx (by rw [e0]; exact Ar1.1) (State.isArrayOf_alike hZ.alike Ar1.2.1) (g := (mkF m 2 #[.val (.ref t), .val (.int (4 : Int32))] [(.ref t), (.int (4 : Int32))])) rfl rfl (hb hby d18_2) _ (by rw [ln1]; exact kk)) ?_
  refine go_of (B := (s₁.setTop (mkF m 8 #[.val (.ref t), .val (.int (4 : Int32))] [(.int (1 : Int32))]))) (fun _ kk => XS.isub X0.here hx rfl (hb hby d18_3) rfl (XS.bipush X0.here hx rfl (hb hby d18_4) (XS.iushr X0.here hx rfl (hb hby d18_6) rfl (XS.i2b X0.here hx rfl (hb hby d18_7) rfl kk)))) ?_
  refine go_end X0 (v := some (.int (nar .byte (1 : Int32)))) (fun h => by rw [Bd.returns] at h; cases h) Bd.notSynchronized (by decide) (by decide) (Q := (Q_u_cf_4 Z t k vs h0 n0)) ?_ (fun fs hr => retN X0 hx (t := .byte) Bd.returns (by simp) (hb hby d18_8) hr)
  unfold Q_u_cf_4
  try rw [e0]
  exact ⟨rfl, N0, rfl⟩
def Q_u_i4_4 (Z : State) (a : Addr) (s' : Addr) (c0 : Int32) (c1 : Int32) (c2 : Int32) (c3 : Int32) (ks : ClassId) (gC : Int32) (u : Value) (u2 : Value) (h0 : Heap) (n0 : Nat) (v : Option Value) (h : Heap) (L : List Loc) : Prop := v = none ∧ Fr n0 L ∧ Keep h0 h [a] ∧ StrU Z h a 4 8 [c0, c1, c2, c3]
theorem ef_u_i4_4 (m : MethodId) (a : Addr) (s' : Addr)  : entryFrame m #[(.ref a), (.ref s'), (.int (0 : Int32)), (.int (4 : Int32)), .null] 6 = mkF m 0 #[.val (.ref a), .val (.ref s'), .val (.int (0 : Int32)), .val (.int (4 : Int32)), .val .null, .unset] [] := by first | (simp [entryFrame, mkF, argsToLocals, Value.category]; done) | rfl
theorem u_i4_4 (l : Launch) (Z : State) (a0 : Array Value) (hw : TW a0 Z) (ws : List Cond) (a : Addr) (s' : Addr) (c0 : Int32) (c1 : Int32) (c2 : Int32) (c3 : Int32) (ks : ClassId) (gC : Int32) (u : Value) (u2 : Value) (h0 : Heap) (n0 : Nat) (Z0 : n0 ≤ h0.size) (O : Old Z n0 h0) (SC : Sta Z Z.heap "java/lang/String" "COMPACT_STRINGS" "Z" (.int gC)) (hgC : ¬ gC = (0 : Int32)) (SU : US Z) (E : Exa Z h0 a "java/lang/String") (F : Fld Z h0 a "java/lang/String" "value" "[B" u) (F2 : Fld Z h0 a "java/lang/String" "coder" "B" u2) (g : n0 ≤ a) (Vs : Arv Z h0 s' ks .char 4 [(.int c0), (.int c1), (.int c2), (.int c3)] (.int 0)) (hc0 : ¬ c0 < 0 ∧ ¬ (65535 : Int32) < c0) (hc1 : ¬ c1 < 0 ∧ ¬ (65535 : Int32) < c1) (hc2 : ¬ c2 < 0 ∧ ¬ (65535 : Int32) < c2) (hc3 : ¬ c3 < 0 ∧ ¬ (65535 : Int32) < c3) :
    own_MF l Z MN6 jdk_42_method_149_code 6 none ws (own_R 4 2 12 57) #[(.ref a), (.ref s'), (.int (0 : Int32)), (.int (4 : Int32)), .null] h0 (Q_u_i4_4 Z a s' c0 c1 c2 c3 ks gC u u2 h0 n0) := by
  have wd := @own_wd _ _ hw
  refine MetFree.of_bodySF (plainFor_of_name pn_java_lang_String) hisR ?_
  intro p e s m args below meth c s₁ Bd hml0 hP hK
  obtain ⟨rfl, hZ, hh⟩ := hP
  have hx := Bd.exec
  have hby := Bd.bytes
  have hml : c.maxLocals = 6 := hml0
  have hown : s.vm.findClass "java/lang/String" = some m.cls := findClass_of_methodNamed Bd.named
  have hnm := (name_of_methodNamed Bd.named Bd.method).1
  have X0 : Stand p l e (own_R 4 2 12 57) s m #[(.ref a), (.ref s'), (.int (0 : Int32)), (.int (4 : Int32)), .null] below meth c s₁ [] 0 0 := Stand.of_body Bd
  have e0 : s₁.heap = h0 := by rw [← hh, Bd.state]; rfl
  have N0 := Fr.nil n0
  have lta := own_nlt (E.lt)
  have lts := own_nlt (Vs.lt)
  refine go_of (A := s₁.setTop (entryFrame m #[(.ref a), (.ref s'), (.int (0 : Int32)), (.int (4 : Int32)), .null] 6)) (B := s₁.setTop (mkF m 0 #[.val (.ref a), .val (.ref s'), .val (.int (0 : Int32)), .val (.int (4 : Int32)), .val .null, .unset] [])) (fun _ kk' => castTop (ef_u_i4_4 m a s') kk') ?_
  refine go_of (B := (s₁.setTop (mkF m 1 #[.val (.ref a), .val (.ref s'), .val (.int (0 : Int32)), .val (.int (4 : Int32)), .val .null, .unset] [(.ref a)]))) (fun _ kk => XS.aloadN X0.here hx rfl (hb hby d3_0) rfl rfl kk) ?_
  obtain ⟨T1, X1, e1, st1⟩ := initO X0 hx hZ hown (wd 17 rfl) (wd 18 rfl) (wd 19 rfl) e0 (g := (mkF m 1 #[.val (.ref a), .val (.ref s'), .val (.int (0 : Int32)), .val (.int (4 : Int32)), .val .null, .unset] [(.ref a)])) rfl (by rw [hml]; rfl) rfl (hb hby d3_1) (by decide) (W := 0) (Nat.le_of_eq rfl) (by decide)
  refine go_of (B := (T1.setTop (mkF m 4 #[.val (.ref a), .val (.ref s'), .val (.int (0 : Int32)), .val (.int (4 : Int32)), .val .null, .unset] []))) (st1) ?_
  refine go_of (B := (T1.setTop (mkF m 27 #[.val (.ref a), .val (.ref s'), .val (.int (0 : Int32)), .val (.int (4 : Int32)), .val .null, .unset] []))) (fun _ kk => XS.iloadN X1.here hx rfl (hb hby d3_4) rfl (XS.ifYes X1.here hx rfl (pc0 := 5) (pc' := 27) rfl (hb hby d3_5) rfl ((if0 _ _).trans (feq (by decide : ¬ ((4 : Int32) = (0 : Int32)))).2) (by decide) (by decide) kk)) ?_
  obtain ⟨T2, X2, e2, st2⟩ := getS2 X1 hx hZ hown (host := "") (Or.inl (wd 47 rfl)) Via.refl e1 (SC.ext O.2) (g := (mkF m 27 #[.val (.ref a), .val (.ref s'), .val (.int (0 : Int32)), .val (.int (4 : Int32)), .val .null, .unset] [])) rfl (hb hby d3_27)
  refine go_of (B := (T2.setTop (mkF m 30 #[.val (.ref a), .val (.ref s'), .val (.int (0 : Int32)), .val (.int (4 : Int32)), .val .null, .unset] [(.int gC)]))) (st2) ?_
  refine go_of (B := (T2.setTop (mkF m 36 #[.val (.ref a), .val (.ref s'), .val (.int (0 : Int32)), .val (.int (4 : Int32)), .val .null, .unset] [(.int (4 : Int32)), (.int (0 : Int32)), (.ref s')]))) (fun _ kk => XS.ifNo X2.here hx rfl (hb hby d3_30) rfl ((if0 _ _).trans (feq hgC).1) (XS.aloadN X2.here hx rfl (hb hby d3_33) rfl rfl (XS.iloadN X2.here hx rfl (hb hby d3_34) rfl (XS.iloadN X2.here hx rfl (hb hby d3_35) rfl kk)))) ?_
  obtain ⟨_, _, ⟨T3, L3, k3, n3⟩, -, X3, ⟨Lc3, hQ3, l3, y3, z3⟩, st3⟩ := Jvm.LawKit.callS X2 hx (y := MN17) hown (mvT hZ (wd 75 rfl)) (mvT hZ (wd 76 rfl)) (mvT hZ (wd 77 rfl)) (mvT hZ (wd 78 rfl)) (by decide) (backOf (W := 0) (u_c3_4 l Z a0 hw [] s' c0 c1 c2 c3 ks h0 n0 (by omega) O SU Vs hc0 hc1 hc2 hc3) hZ (wd 78 rfl) (wd 77 rfl) (by decide) (by decide)) (g := (mkF m 36 #[.val (.ref a), .val (.ref s'), .val (.int (0 : Int32)), .val (.int (4 : Int32)), .val .null, .unset] [(.int (4 : Int32)), (.int (0 : Int32)), (.ref s')])) rfl (by rw [hml]; rfl) (argsL := [(.ref s'), (.int (0 : Int32)), (.int (4 : Int32))]) (rest := []) (lenOf pd___CII__B rfl) rfl (Nat.le_of_eq rfl) (hb hby d3_36) (fun _ _ => ⟨rfl, e2, (by decide : 0 + 2 ≤ _), (by decide : 0 + 12 ≤ _)⟩)
  dsimp only [Pt.U, Pt.locs, Pt.cells, Pt.slots] at X3 l3 y3 z3 st3 hQ3
  subst l3 y3 z3
  obtain ⟨b3, k3, rfl, N3q, lo3, K3, H3⟩ := hQ3
  have lo3 := own_nle lo3
  have N3 := Fr.app N0 N3q
  have sz3 := K3.1
  refine go_of (B := (T3.setTop (mkF m 39 #[.val (.ref a), .val (.ref s'), .val (.int (0 : Int32)), .val (.int (4 : Int32)), .val .null, .unset] [(.ref b3)]))) (st3) ?_
  rcases H3 with ⟨hl0, hl1, hl2, hl3, V3⟩ | V3
  · have hi3 := own_nlt (V3.lt)
    refine go_of (B := (T3.setTop (mkF m 45 #[.val (.ref a), .val (.ref s'), .val (.int (0 : Int32)), .val (.int (4 : Int32)), .val .null, .val (.ref b3)] [(.int (4 : Int32)), (.ref b3), (.ref a)]))) (fun _ kk => XS.astore X3.here hx rfl (hb hby d3_39) rfl rfl rfl (XS.aloadN X3.here hx rfl (hb hby d3_41) rfl rfl (XS.aload X3.here hx rfl (hb hby d3_42) rfl rfl (XS.iloadN X3.here hx rfl (hb hby d3_44) rfl kk)))) ?_
    obtain ⟨_, _, ⟨T4, L4, k4, n4⟩, -, X4, ⟨Lc4, hQ4, l4, y4, z4⟩, st4⟩ := Jvm.LawKit.callS X3 hx (y := MN16) hown (mvT hZ (wd 82 rfl)) (mvT hZ (wd 83 rfl)) (mvT hZ (wd 77 rfl)) (mvT hZ (wd 84 rfl)) (by decide) (backOf (W := 1) (str_cf_4 l Z a0 hw [] b3 k3 _ T3.heap n0 (by omega) V3) hZ (wd 84 rfl) (wd 77 rfl) (by decide) (by decide)) (g := (mkF m 45 #[.val (.ref a), .val (.ref s'), .val (.int (0 : Int32)), .val (.int (4 : Int32)), .val .null, .val (.ref b3)] [(.int (4 : Int32)), (.ref b3), (.ref a)])) rfl (by rw [hml]; rfl) (argsL := [(.ref b3), (.int (4 : Int32))]) (rest := [(.ref a)]) (lenOf pd___BI_B rfl) rfl (Nat.le_of_eq rfl) (hb hby d3_45) (fun _ _ => ⟨rfl, rfl, (by decide : 2 + 0 ≤ _), (by decide : 12 + 0 ≤ _)⟩)
    dsimp only [Pt.U, Pt.locs, Pt.cells, Pt.slots] at X4 l4 y4 z4 st4 hQ4
    subst l4 y4 z4
    obtain ⟨rfl, N4q, e4⟩ := hQ4
    have N4 := Fr.app N3 N4q
    refine go_of (B := (T4.setTop (mkF m 48 #[.val (.ref a), .val (.ref s'), .val (.int (0 : Int32)), .val (.int (4 : Int32)), .val .null, .val (.ref b3)] [(.int (0 : Int32)), (.ref a)]))) (st4) ?_
    have cf_5 := (E.keep K3)
    have cf_6 := (F2.keep K3 nin0)
    obtain ⟨T7, h7, X7, e7, W7, st7⟩ := putFN X4 hx hZ hown (wd 27 rfl) Via.refl e4 cf_6 cf_5 (Or.inr ⟨(wd 23 rfl), rfl, hnm⟩) (wd 8 rfl) (ty := .byte) (v' := (.int (nar .byte (0 : Int32)))) (by decide) rfl (fits_nar_byte _) (g := (mkF m 48 #[.val (.ref a), .val (.ref s'), .val (.int (0 : Int32)), .val (.int (4 : Int32)), .val .null, .val (.ref b3)] [(.int (0 : Int32)), (.ref a)])) rfl rfl (hb hby d3_48)
    have sz7 := W7.size
    have Fw7 := cf_6.same W7
    have N7 := Fr.snoc X7 N4 (g : n0 ≤ a)
    refine go_of (B := (T7.setTop (mkF m 51 #[.val (.ref a), .val (.ref s'), .val (.int (0 : Int32)), .val (.int (4 : Int32)), .val .null, .val (.ref b3)] []))) (st7) ?_
    refine go_of (B := (T7.setTop (mkF m 54 #[.val (.ref a), .val (.ref s'), .val (.int (0 : Int32)), .val (.int (4 : Int32)), .val .null, .val (.ref b3)] [(.ref b3), (.ref a)]))) (fun _ kk => XS.aloadN X7.here hx rfl (hb hby d3_51) rfl rfl (XS.aload X7.here hx rfl (hb hby d3_52) rfl rfl kk)) ?_
    have cf_8 := (cf_5.wr W7)
    have cf_9 := ((F.keep K3 nin0).other W7 (Or.inr (slot_ne (Or.inr (wd 22 rfl)) (Or.inr (wd 23 rfl)) (by decide) (t := (.array .byte)) (t' := .byte) (by decide) (by decide))))
    obtain ⟨T10, h10, X10, e10, W10, st10⟩ := putF X7 hx hZ hown (host := "") (Or.inl (wd 26 rfl)) Via.refl e7 cf_9 cf_8 (Or.inr ⟨(wd 22 rfl), rfl, hnm⟩) (wd 8 rfl) (ty := (.array .byte)) (by decide) rfl rfl (g := (mkF m 54 #[.val (.ref a), .val (.ref s'), .val (.int (0 : Int32)), .val (.int (4 : Int32)), .val .null, .val (.ref b3)] [(.ref b3), (.ref a)])) rfl rfl (hb hby d3_54)
    have sz10 := W10.size
    have Fw10 := cf_9.same W10
    have N10 := Fr.snoc X10 N7 (g : n0 ≤ a)
    refine go_of (B := (T10.setTop (mkF m 57 #[.val (.ref a), .val (.ref s'), .val (.int (0 : Int32)), .val (.int (4 : Int32)), .val .null, .val (.ref b3)] []))) (st10) ?_
    have cf_11 := ((V3.other W7 (by first | omega | exact own_ne (by omega) | exact own_le (by omega))).other W10 (by first | omega | exact own_ne (by omega) | exact own_le (by omega)))
    have cf_12 := (Fw7.other W10 (Or.inr (slot_ne (Or.inr (wd 23 rfl)) (Or.inr (wd 22 rfl)) (by decide) (t := .byte) (t' := (.array .byte)) (by decide) (by decide))))
    have cf_13 := (cf_8.wr W10)
    refine go_end X10 (v := none) (fun _ => rfl) Bd.notSynchronized (by decide) (by decide) (Q := (Q_u_i4_4 Z a s' c0 c1 c2 c3 ks gC u u2 h0 n0)) ?_ (fun fs hr => X10.returnOut hx Bd.returns (hb hby d3_57) hr)
    unfold Q_u_i4_4
    try rw [e10]
    exact ⟨rfl, N10, ((((Keep.refl h0 [a]).trans K3 all0).wr W7 (Or.inl (List.mem_of_getElem? (i := 0) rfl))).wr W10 (Or.inl (List.mem_of_getElem? (i := 0) rfl))), Or.inl ⟨b3, k3, cf_13, cf_12, Fw10, cf_11, (own_allc ⟨hc0.1, hl0⟩ (own_allc ⟨hc1.1, hl1⟩ (own_allc ⟨hc2.1, hl2⟩ (own_allc ⟨hc3.1, hl3⟩ (fun _ q => nomatch q)))))⟩⟩
  · have hi3 := own_nlt (V3.lt)
    refine go_of (B := (T3.setTop (mkF m 45 #[.val (.ref a), .val (.ref s'), .val (.int (0 : Int32)), .val (.int (4 : Int32)), .val .null, .val (.ref b3)] [(.int (4 : Int32)), (.ref b3), (.ref a)]))) (fun _ kk => XS.astore X3.here hx rfl (hb hby d3_39) rfl rfl rfl (XS.aloadN X3.here hx rfl (hb hby d3_41) rfl rfl (XS.aload X3.here hx rfl (hb hby d3_42) rfl rfl (XS.iloadN X3.here hx rfl (hb hby d3_44) rfl kk)))) ?_
    obtain ⟨_, _, ⟨T14, L14, k14, n14⟩, -, X14, ⟨Lc14, hQ14, l14, y14, z14⟩, st14⟩ := Jvm.LawKit.callS X3 hx (y := MN16) hown (mvT hZ (wd 82 rfl)) (mvT hZ (wd 83 rfl)) (mvT hZ (wd 77 rfl)) (mvT hZ (wd 84 rfl)) (by decide) (backOf (W := 1) (u_cf_4 l Z a0 hw [] b3 k3 _ T3.heap n0 (by omega) V3) hZ (wd 84 rfl) (wd 77 rfl) (by decide) (by decide)) (g := (mkF m 45 #[.val (.ref a), .val (.ref s'), .val (.int (0 : Int32)), .val (.int (4 : Int32)), .val .null, .val (.ref b3)] [(.int (4 : Int32)), (.ref b3), (.ref a)])) rfl (by rw [hml]; rfl) (argsL := [(.ref b3), (.int (4 : Int32))]) (rest := [(.ref a)]) (lenOf pd___BI_B rfl) rfl (Nat.le_of_eq rfl) (hb hby d3_45) (fun _ _ => ⟨rfl, rfl, (by decide : 2 + 0 ≤ _), (by decide : 12 + 0 ≤ _)⟩)
    dsimp only [Pt.U, Pt.locs, Pt.cells, Pt.slots] at X14 l14 y14 z14 st14 hQ14
    subst l14 y14 z14
    obtain ⟨rfl, N14q, e14⟩ := hQ14
    have N14 := Fr.app N3 N14q
    refine go_of (B := (T14.setTop (mkF m 48 #[.val (.ref a), .val (.ref s'), .val (.int (0 : Int32)), .val (.int (4 : Int32)), .val .null, .val (.ref b3)] [(.int (1 : Int32)), (.ref a)]))) (st14) ?_
    have cf_15 := (E.keep K3)
    have cf_16 := (F2.keep K3 nin0)
    obtain ⟨T17, h17, X17, e17, W17, st17⟩ := putFN X14 hx hZ hown (wd 27 rfl) Via.refl e14 cf_16 cf_15 (Or.inr ⟨(wd 23 rfl), rfl, hnm⟩) (wd 8 rfl) (ty := .byte) (v' := (.int (nar .byte (1 : Int32)))) (by decide) rfl (fits_nar_byte _) (g := (mkF m 48 #[.val (.ref a), .val (.ref s'), .val (.int (0 : Int32)), .val (.int (4 : Int32)), .val .null, .val (.ref b3)] [(.int (1 : Int32)), (.ref a)])) rfl rfl (hb hby d3_48)
    have sz17 := W17.size
    have Fw17 := cf_16.same W17
    have N17 := Fr.snoc X17 N14 (g : n0 ≤ a)
    refine go_of (B := (T17.setTop (mkF m 51 #[.val (.ref a), .val (.ref s'), .val (.int (0 : Int32)), .val (.int (4 : Int32)), .val .null, .val (.ref b3)] []))) (st17) ?_
    refine go_of (B := (T17.setTop (mkF m 54 #[.val (.ref a), .val (.ref s'), .val (.int (0 : Int32)), .val (.int (4 : Int32)), .val .null, .val (.ref b3)] [(.ref b3), (.ref a)]))) (fun _ kk => XS.aloadN X17.here hx rfl (hb hby d3_51) rfl rfl (XS.aload X17.here hx rfl (hb hby d3_52) rfl rfl kk)) ?_
    have cf_18 := (cf_15.wr W17)
    have cf_19 := ((F.keep K3 nin0).other W17 (Or.inr (slot_ne (Or.inr (wd 22 rfl)) (Or.inr (wd 23 rfl)) (by decide) (t := (.array .byte)) (t' := .byte) (by decide) (by decide))))
    obtain ⟨T20, h20, X20, e20, W20, st20⟩ := putF X17 hx hZ hown (host := "") (Or.inl (wd 26 rfl)) Via.refl e17 cf_19 cf_18 (Or.inr ⟨(wd 22 rfl), rfl, hnm⟩) (wd 8 rfl) (ty := (.array .byte)) (by decide) rfl rfl (g := (mkF m 54 #[.val (.ref a), .val (.ref s'), .val (.int (0 : Int32)), .val (.int (4 : Int32)), .val .null, .val (.ref b3)] [(.ref b3), (.ref a)])) rfl rfl (hb hby d3_54)
    have sz20 := W20.size
    have Fw20 := cf_19.same W20
    have N20 := Fr.snoc X20 N17 (g : n0 ≤ a)
    refine go_of (B := (T20.setTop (mkF m 57 #[.val (.ref a), .val (.ref s'), .val (.int (0 : Int32)), .val (.int (4 : Int32)), .val .null, .val (.ref b3)] []))) (st20) ?_
    have cf_21 := ((V3.other W17 (by first | omega | exact own_ne (by omega) | exact own_le (by omega))).other W20 (by first | omega | exact own_ne (by omega) | exact own_le (by omega)))
    have cf_22 := (Fw17.other W20 (Or.inr (slot_ne (Or.inr (wd 23 rfl)) (Or.inr (wd 22 rfl)) (by decide) (t := .byte) (t' := (.array .byte)) (by decide) (by decide))))
    have cf_23 := (cf_18.wr W20)
    refine go_end X20 (v := none) (fun _ => rfl) Bd.notSynchronized (by decide) (by decide) (Q := (Q_u_i4_4 Z a s' c0 c1 c2 c3 ks gC u u2 h0 n0)) ?_ (fun fs hr => X20.returnOut hx Bd.returns (hb hby d3_57) hr)
    unfold Q_u_i4_4
    try rw [e20]
    exact ⟨rfl, N20, ((((Keep.refl h0 [a]).trans K3 all0).wr W17 (Or.inl (List.mem_of_getElem? (i := 0) rfl))).wr W20 (Or.inl (List.mem_of_getElem? (i := 0) rfl))), Or.inr ⟨b3, k3, cf_23, cf_22, Fw20, cf_21, (own_allc hc0 (own_allc hc1 (own_allc hc2 (own_allc hc3 (fun _ q => nomatch q)))))⟩⟩
def Q_u_i1_4 (Z : State) (a : Addr) (s' : Addr) (c0 : Int32) (c1 : Int32) (c2 : Int32) (c3 : Int32) (ks : ClassId) (gC : Int32) (u : Value) (u2 : Value) (h0 : Heap) (n0 : Nat) (v : Option Value) (h : Heap) (L : List Loc) : Prop := v = none ∧ Fr n0 L ∧ Keep h0 h [a] ∧ StrU Z h a 4 8 [c0, c1, c2, c3]
theorem ef_u_i1_4 (m : MethodId) (a : Addr) (s' : Addr)  : entryFrame m #[(.ref a), (.ref s')] 2 = mkF m 0 #[.val (.ref a), .val (.ref s')] [] := by first | (simp [entryFrame, mkF, argsToLocals, Value.category]; done) | rfl
theorem u_i1_4 (l : Launch) (Z : State) (a0 : Array Value) (hw : TW a0 Z) (ws : List Cond) (a : Addr) (s' : Addr) (c0 : Int32) (c1 : Int32) (c2 : Int32) (c3 : Int32) (ks : ClassId) (gC : Int32) (u : Value) (u2 : Value) (h0 : Heap) (n0 : Nat) (Z0 : n0 ≤ h0.size) (O : Old Z n0 h0) (SC : Sta Z Z.heap "java/lang/String" "COMPACT_STRINGS" "Z" (.int gC)) (hgC : ¬ gC = (0 : Int32)) (SU : US Z) (E : Exa Z h0 a "java/lang/String") (F : Fld Z h0 a "java/lang/String" "value" "[B" u) (F2 : Fld Z h0 a "java/lang/String" "coder" "B" u2) (g : n0 ≤ a) (Vs : Arv Z h0 s' ks .char 4 [(.int c0), (.int c1), (.int c2), (.int c3)] (.int 0)) (hc0 : ¬ c0 < 0 ∧ ¬ (65535 : Int32) < c0) (hc1 : ¬ c1 < 0 ∧ ¬ (65535 : Int32) < c1) (hc2 : ¬ c2 < 0 ∧ ¬ (65535 : Int32) < c2) (hc3 : ¬ c3 < 0 ∧ ¬ (65535 : Int32) < c3) :
    own_MF l Z MN5 jdk_42_method_3_code 2 none ws (own_R 5 2 12 74) #[(.ref a), (.ref s')] h0 (Q_u_i1_4 Z a s' c0 c1 c2 c3 ks gC u u2 h0 n0) := by
  have wd := @own_wd _ _ hw
  refine MetFree.of_bodySF (plainFor_of_name pn_java_lang_String) hisR ?_
  intro p e s m args below meth c s₁ Bd hml0 hP hK
  obtain ⟨rfl, hZ, hh⟩ := hP
  have hx := Bd.exec
  have hby := Bd.bytes
  have hml : c.maxLocals = 2 := hml0
  have hown : s.vm.findClass "java/lang/String" = some m.cls := findClass_of_methodNamed Bd.named
  have hnm := (name_of_methodNamed Bd.named Bd.method).1
  have X0 : Stand p l e (own_R 5 2 12 74) s m #[(.ref a), (.ref s')] below meth c s₁ [] 0 0 := Stand.of_body Bd
  have e0 : s₁.heap = h0 := by rw [← hh, Bd.state]; rfl
  have N0 := Fr.nil n0
  have lta := own_nlt (E.lt)
  have lts := own_nlt (Vs.lt)
  refine go_of (A := s₁.setTop (entryFrame m #[(.ref a), (.ref s')] 2)) (B := s₁.setTop (mkF m 0 #[.val (.ref a), .val (.ref s')] [])) (fun _ kk' => castTop (ef_u_i1_4 m a s') kk') ?_
  refine go_of (B := (s₁.setTop (mkF m 4 #[.val (.ref a), .val (.ref s')] [(.ref s'), (.int (0 : Int32)), (.ref s'), (.ref a)]))) (fun _ kk => XS.aloadN X0.here hx rfl (hb hby d2_0) rfl rfl (XS.aloadN X0.here hx rfl (hb hby d2_1) rfl rfl (XS.iconst X0.here hx rfl (hb hby d2_2) (XS.aloadN X0.here hx rfl (hb hby d2_3) rfl rfl kk)))) ?_
  obtain ⟨cl1, Ar1, q1, Sz1, Nn1, Hh1, G1⟩ := id (Vs)
  have ln1 := len_of Sz1 Nn1
  refine go_of (B := (s₁.setTop (mkF m 5 #[.val (.ref a), .val (.ref s')] [(.int (4 : Int32)), (.int (0 : Int32)), (.ref s'), (.ref a)]))) (fun _ kk => X0.arraylength hx (by rw [e0]; exact Ar1.1) (State.isArrayOf_alike hZ.alike Ar1.2.1) (g := (mkF m 4 #[.val (.ref a), .val (.ref s')] [(.ref s'), (.int (0 : Int32)), (.ref s'), (.ref a)])) rfl rfl (hb hby d2_4) _ (by rw [ln1]; exact kk)) ?_
  refine go_of (B := (s₁.setTop (mkF m 6 #[.val (.ref a), .val (.ref s')] [.null, (.int (4 : Int32)), (.int (0 : Int32)), (.ref s'), (.ref a)]))) (fun _ kk => XS.aconstNull X0.here hx rfl (hb hby d2_5) kk) ?_
  obtain ⟨_, _, ⟨T2, L2, k2, n2⟩, -, X2, ⟨Lc2, hQ2, l2, y2, z2⟩, st2⟩ := X0.specialBack hx (y := MN6) rfl hown (mvT hZ (wd 13 rfl)) (mvT hZ (wd 14 rfl)) (mvT hZ (wd 16 rfl)) (by decide) (backOf (W := 0) (u_i4_4 l Z a0 hw [] a s' c0 c1 c2 c3 ks gC u u2 h0 n0 (by omega) O SC hgC SU E F F2 g Vs hc0 hc1 hc2 hc3) hZ (wd 16 rfl) (wd 9 rfl) (by decide) (by decide)) (g := (mkF m 6 #[.val (.ref a), .val (.ref s')] [.null, (.int (4 : Int32)), (.int (0 : Int32)), (.ref s'), (.ref a)])) rfl (by rw [hml]; rfl) (Steps.refl _) (a := a) (argsL := [(.ref s'), (.int (0 : Int32)), (.int (4 : Int32)), .null]) (rest := []) (lenOf pd___CIILjava_lang_Void__V rfl) rfl (Nat.le_of_eq rfl) (hb hby d2_6) (fun _ _ => ⟨rfl, e0, (by decide : 0 + 2 ≤ _), (by decide : 0 + 12 ≤ _)⟩)
  dsimp only [Pt.U, Pt.locs, Pt.cells, Pt.slots] at X2 l2 y2 z2 st2 hQ2
  subst l2 y2 z2
  obtain ⟨rfl, N2q, K2, S2⟩ := hQ2
  have N2 := Fr.app N0 N2q
  have sz2 := K2.1
  refine go_tr (B := (T2.setTop (mkF m 9 #[.val (.ref a), .val (.ref s')] []))) (st2) ?_
  refine go_end X2 (v := none) (fun _ => rfl) Bd.notSynchronized (by decide) (by decide) (Q := (Q_u_i1_4 Z a s' c0 c1 c2 c3 ks gC u u2 h0 n0)) ?_ (fun fs hr => X2.returnOut hx Bd.returns (hb hby d2_9) hr)
  unfold Q_u_i1_4
  exact ⟨rfl, N2, ((Keep.refl h0 [a]).trans K2 (allS (Or.inl (List.mem_of_getElem? (i := 0) rfl)) all0)), S2⟩
theorem own_litc {c : Int32} {cs : List Int32} (h : own_wl c = 0) : own_lit (c :: cs) = own_lit cs := by rw [own_wl0] at h; simp [own_lit, own_hs, h.1, h.2]
theorem own_litw {c : Int32} {cs : List Int32} (h : ¬ own_wl c = 0) : own_lit (c :: cs) = 0 := by
  rw [own_wl0] at h
  by_cases q : c = 42
  · simp [own_lit, own_hs, q]
  · have r : c = 63 := by simpa [q] using h
    simp [own_lit, own_hs, r]
theorem own_litn : own_lit [] = 1 := rfl
theorem pd__I_C : parseMethodDescriptor "(I)C" = some ⟨[.int], some .char⟩ := by decide +kernel
theorem pd___C_V : parseMethodDescriptor "([C)V" = some ⟨[(.array .char)], none⟩ := by decide +kernel
theorem pd__Ljava_lang_String__Z : parseMethodDescriptor "(Ljava/lang/String;)Z" = some ⟨[(.object "java/lang/String")], some .boolean⟩ := by decide +kernel
def Q_rm0 (Z : State) (ln : Int32) (xa : Int32) (xb : Int32) (xc : Int32) (xd : Int32) (gC : Int32) (gF : Value) (h0 : Heap) (n0 : Nat) (v : Option Value) (h : Heap) (L : List Loc) : Prop := v = some (.int 1) ∧ Fr n0 L
theorem lw0 {p : Program} {l : Launch} {e : Env} {s : State} {m : MethodId} {args : Array Value} {below : List Frame} {meth : Method} {c : Code} {Z : State} {a0 : Array Value} {h0 : Heap} {n0 : Nat} (ln : Int32) (xa : Int32) (xb : Int32) (xc : Int32) (xd : Int32) (gC : Int32) (gF : Value) {T0 : State} {locs : List Loc}
    (X0 : Stand p l e room_1 s m args below meth c T0 locs 0 0) (hx : p.tables.exec = Jvm.exec) (hZ : Z.Warmed39 s.vm) (hw : TW a0 Z) (hby : c.code = code) (hml : c.maxLocals = 13) (hown : s.vm.findClass "com/example/grantline/grantline/GlobIsLiteralPinLaw" = some m.cls) (hret : meth.sig.returnType = (some .boolean)) (hlk : meth.locks = false) (e0 : T0.heap = h0) (N0 : Fr n0 locs) (Z0 : n0 ≤ h0.size) (O : Old Z n0 h0) (SC : Sta Z Z.heap "java/lang/String" "COMPACT_STRINGS" "Z" (.int gC)) (hgC : ¬ gC = (0 : Int32)) (SU : US Z) (SF : Sta Z Z.heap "jdk/internal/util/Preconditions" "SIOOBE_FORMATTER" "Ljava/util/function/BiFunction;" gF) (rgF : gF.isRef = true) (hh0 : s.heap = h0) (hCH : CHv Z own_EL s.vm h0) :
    Go p e below (T0.setTop (mkF m 8 #[.val (.int ln), .val (.int xa), .val (.int xb), .val (.int xc), .val (.int xd), .val (.int (0 : Int32)), .unset, .unset, .unset, .unset, .unset, .unset, .unset] [])) (fun oo' U2' => ∃ vv' LL', oo' = .returned vv' ∧ (Q_rm0 Z ln xa xb xc xd gC gF h0 n0) vv' U2'.heap LL' ∧ CHr Z own_EL s.vm s.heap U2'.vm U2'.heap ∧ ReturnedEndW s oo' U2' LL' room_1.cells room_1.slots) := by
  have wd := @own_wd _ _ hw
  have X0 : Stand p l e room_1 (s.setVm s.vm) m args below meth c T0 locs 0 0 := X0
  have hS : s.Since s.vm 0 := (State.WarmedH.refl s).since 0
  have hEL := own_EW hw
  have HC0 := CHr.refl hCH
  refine go_of (B := (T0.setTop (mkF m 9 #[.val (.int ln), .val (.int xa), .val (.int xb), .val (.int xc), .val (.int xd), .val (.int (0 : Int32)), .unset, .unset, .unset, .unset, .unset, .unset, .unset] [(.int xa)]))) (fun _ kk => XS.iloadN X0.here hx rfl (hb hby at_8) rfl kk) ?_
  obtain ⟨_, _, ⟨T1, L1, k1, n1⟩, -, X1, ⟨Lc1, hQ1, l1, y1, z1⟩, st1⟩ := Jvm.LawKit.callS X0 hx (y := MN1) hown (mvT hZ (wd 1 rfl)) (mvT hZ (wd 2 rfl)) (mvT hZ (wd 3 rfl)) (mvT hZ (wd 4 rfl)) (by decide) (backOf (W := 0) (gch l Z a0 hw [] xa h0 n0 (by omega)) hZ (wd 4 rfl) (wd 3 rfl) (by decide) (by decide)) (g := (mkF m 9 #[.val (.int ln), .val (.int xa), .val (.int xb), .val (.int xc), .val (.int xd), .val (.int (0 : Int32)), .unset, .unset, .unset, .unset, .unset, .unset, .unset] [(.int xa)])) rfl (by rw [hml]; rfl) (argsL := [(.int xa)]) (rest := []) (lenOf pd__I_C rfl) rfl (Nat.le_of_eq rfl) (hb hby at_9) (fun _ _ => ⟨rfl, e0, (by decide : 0 + 0 ≤ _), (by decide : 0 + 0 ≤ _)⟩)
  dsimp only [Pt.U, Pt.locs, Pt.cells, Pt.slots] at X1 l1 y1 z1 st1 hQ1
  subst l1 y1 z1
  obtain ⟨rfl, N1q, e1⟩ := hQ1
  have N1 := Fr.app N0 N1q
  refine go_of (B := (T1.setTop (mkF m 12 #[.val (.int ln), .val (.int xa), .val (.int xb), .val (.int xc), .val (.int xd), .val (.int (0 : Int32)), .unset, .unset, .unset, .unset, .unset, .unset, .unset] [(.int (own_gch xa))]))) (st1) ?_
  refine go_of (B := (T1.setTop (mkF m 15 #[.val (.int ln), .val (.int xa), .val (.int xb), .val (.int xc), .val (.int xd), .val (.int (0 : Int32)), .val (.int (own_gch xa)), .unset, .unset, .unset, .unset, .unset, .unset] [(.int xb)]))) (fun _ kk => XS.istore X1.here hx rfl (hb hby at_12) rfl rfl (XS.iloadN X1.here hx rfl (hb hby at_14) rfl kk)) ?_
  obtain ⟨_, _, ⟨T2, L2, k2, n2⟩, -, X2, ⟨Lc2, hQ2, l2, y2, z2⟩, st2⟩ := Jvm.LawKit.callS X1 hx (y := MN1) hown (mvT hZ (wd 1 rfl)) (mvT hZ (wd 2 rfl)) (mvT hZ (wd 3 rfl)) (mvT hZ (wd 4 rfl)) (by decide) (backOf (W := 0) (gch l Z a0 hw [] xb h0 n0 (by omega)) hZ (wd 4 rfl) (wd 3 rfl) (by decide) (by decide)) (g := (mkF m 15 #[.val (.int ln), .val (.int xa), .val (.int xb), .val (.int xc), .val (.int xd), .val (.int (0 : Int32)), .val (.int (own_gch xa)), .unset, .unset, .unset, .unset, .unset, .unset] [(.int xb)])) rfl (by rw [hml]; rfl) (argsL := [(.int xb)]) (rest := []) (lenOf pd__I_C rfl) rfl (Nat.le_of_eq rfl) (hb hby at_15) (fun _ _ => ⟨rfl, e1, (by decide : 0 + 0 ≤ _), (by decide : 0 + 0 ≤ _)⟩)
  dsimp only [Pt.U, Pt.locs, Pt.cells, Pt.slots] at X2 l2 y2 z2 st2 hQ2
  subst l2 y2 z2
  obtain ⟨rfl, N2q, e2⟩ := hQ2
  have N2 := Fr.app N1 N2q
  refine go_of (B := (T2.setTop (mkF m 18 #[.val (.int ln), .val (.int xa), .val (.int xb), .val (.int xc), .val (.int xd), .val (.int (0 : Int32)), .val (.int (own_gch xa)), .unset, .unset, .unset, .unset, .unset, .unset] [(.int (own_gch xb))]))) (st2) ?_
  refine go_of (B := (T2.setTop (mkF m 21 #[.val (.int ln), .val (.int xa), .val (.int xb), .val (.int xc), .val (.int xd), .val (.int (0 : Int32)), .val (.int (own_gch xa)), .val (.int (own_gch xb)), .unset, .unset, .unset, .unset, .unset] [(.int xc)]))) (fun _ kk => XS.istore X2.here hx rfl (hb hby at_18) rfl rfl (XS.iloadN X2.here hx rfl (hb hby at_20) rfl kk)) ?_
  obtain ⟨_, _, ⟨T3, L3, k3, n3⟩, -, X3, ⟨Lc3, hQ3, l3, y3, z3⟩, st3⟩ := Jvm.LawKit.callS X2 hx (y := MN1) hown (mvT hZ (wd 1 rfl)) (mvT hZ (wd 2 rfl)) (mvT hZ (wd 3 rfl)) (mvT hZ (wd 4 rfl)) (by decide) (backOf (W := 0) (gch l Z a0 hw [] xc h0 n0 (by omega)) hZ (wd 4 rfl) (wd 3 rfl) (by decide) (by decide)) (g := (mkF m 21 #[.val (.int ln), .val (.int xa), .val (.int xb), .val (.int xc), .val (.int xd), .val (.int (0 : Int32)), .val (.int (own_gch xa)), .val (.int (own_gch xb)), .unset, .unset, .unset, .unset, .unset] [(.int xc)])) rfl (by rw [hml]; rfl) (argsL := [(.int xc)]) (rest := []) (lenOf pd__I_C rfl) rfl (Nat.le_of_eq rfl) (hb hby at_21) (fun _ _ => ⟨rfl, e2, (by decide : 0 + 0 ≤ _), (by decide : 0 + 0 ≤ _)⟩)
  dsimp only [Pt.U, Pt.locs, Pt.cells, Pt.slots] at X3 l3 y3 z3 st3 hQ3
  subst l3 y3 z3
  obtain ⟨rfl, N3q, e3⟩ := hQ3
  have N3 := Fr.app N2 N3q
  refine go_of (B := (T3.setTop (mkF m 24 #[.val (.int ln), .val (.int xa), .val (.int xb), .val (.int xc), .val (.int xd), .val (.int (0 : Int32)), .val (.int (own_gch xa)), .val (.int (own_gch xb)), .unset, .unset, .unset, .unset, .unset] [(.int (own_gch xc))]))) (st3) ?_
  refine go_of (B := (T3.setTop (mkF m 28 #[.val (.int ln), .val (.int xa), .val (.int xb), .val (.int xc), .val (.int xd), .val (.int (0 : Int32)), .val (.int (own_gch xa)), .val (.int (own_gch xb)), .val (.int (own_gch xc)), .unset, .unset, .unset, .unset] [(.int xd)]))) (fun _ kk => XS.istore X3.here hx rfl (hb hby at_24) rfl rfl (XS.iload X3.here hx rfl (hb hby at_26) rfl kk)) ?_
  obtain ⟨_, _, ⟨T4, L4, k4, n4⟩, -, X4, ⟨Lc4, hQ4, l4, y4, z4⟩, st4⟩ := Jvm.LawKit.callS X3 hx (y := MN1) hown (mvT hZ (wd 1 rfl)) (mvT hZ (wd 2 rfl)) (mvT hZ (wd 3 rfl)) (mvT hZ (wd 4 rfl)) (by decide) (backOf (W := 0) (gch l Z a0 hw [] xd h0 n0 (by omega)) hZ (wd 4 rfl) (wd 3 rfl) (by decide) (by decide)) (g := (mkF m 28 #[.val (.int ln), .val (.int xa), .val (.int xb), .val (.int xc), .val (.int xd), .val (.int (0 : Int32)), .val (.int (own_gch xa)), .val (.int (own_gch xb)), .val (.int (own_gch xc)), .unset, .unset, .unset, .unset] [(.int xd)])) rfl (by rw [hml]; rfl) (argsL := [(.int xd)]) (rest := []) (lenOf pd__I_C rfl) rfl (Nat.le_of_eq rfl) (hb hby at_28) (fun _ _ => ⟨rfl, e3, (by decide : 0 + 0 ≤ _), (by decide : 0 + 0 ≤ _)⟩)
  dsimp only [Pt.U, Pt.locs, Pt.cells, Pt.slots] at X4 l4 y4 z4 st4 hQ4
  subst l4 y4 z4
  obtain ⟨rfl, N4q, e4⟩ := hQ4
  have N4 := Fr.app N3 N4q
  refine go_of (B := (T4.setTop (mkF m 31 #[.val (.int ln), .val (.int xa), .val (.int xb), .val (.int xc), .val (.int xd), .val (.int (0 : Int32)), .val (.int (own_gch xa)), .val (.int (own_gch xb)), .val (.int (own_gch xc)), .unset, .unset, .unset, .unset] [(.int (own_gch xd))]))) (st4) ?_
  refine go_of (B := (T4.setTop (mkF m 39 #[.val (.int ln), .val (.int xa), .val (.int xb), .val (.int xc), .val (.int xd), .val (.int (0 : Int32)), .val (.int (own_gch xa)), .val (.int (own_gch xb)), .val (.int (own_gch xc)), .val (.int (own_gch xd)), .unset, .unset, .unset] [(.int (0 : Int32))]))) (fun _ kk => XS.istore X4.here hx rfl (hb hby at_31) rfl rfl (XS.iload X4.here hx rfl (hb hby at_33) rfl (XS.ifNo X4.here hx rfl (hb hby at_35) rfl ((if0 _ _).trans (teq (by decide : (0 : Int32) = (0 : Int32))).2) (XS.iconst X4.here hx rfl (hb hby at_38) kk)))) ?_
  obtain ⟨T5, h5, k5, X5, e5, E5, A5, st5⟩ := newP X4 hx hZ (wd 6 rfl) e4 (g := (mkF m 39 #[.val (.int ln), .val (.int xa), .val (.int xb), .val (.int xc), .val (.int xd), .val (.int (0 : Int32)), .val (.int (own_gch xa)), .val (.int (own_gch xb)), .val (.int (own_gch xc)), .val (.int (own_gch xd)), .unset, .unset, .unset] [(.int (0 : Int32))])) rfl (hb hby at_39) rfl (by decide) (cap := 0) (by decide) (by decide) (by decide) (by decide)
  obtain ⟨b5, g5⟩ : ∃ z, z = h0.size := ⟨_, rfl⟩
  rw [← g5] at A5 st5
  have hi5 := own_nlt A5.lt
  have sz5 := E5.1
  have HC5 := HC0.trans (CHr.ext E5 HC0.1)
  have V5 : Arv Z h5 b5 k5 .char (0 : Int32) [] (.int (0 : Int32)) := (Arv.new A5 (by decide)).pad (pad_rep [] (.int (0 : Int32)) 0)
  refine go_of (B := (T5.setTop (mkF m 41 #[.val (.int ln), .val (.int xa), .val (.int xb), .val (.int xc), .val (.int xd), .val (.int (0 : Int32)), .val (.int (own_gch xa)), .val (.int (own_gch xb)), .val (.int (own_gch xc)), .val (.int (own_gch xd)), .unset, .unset, .unset] [(.ref b5)]))) (st5) ?_
  refine go_of (B := (T5.setTop (mkF m 143 #[.val (.int ln), .val (.int xa), .val (.int xb), .val (.int xc), .val (.int xd), .val (.int (0 : Int32)), .val (.int (own_gch xa)), .val (.int (own_gch xb)), .val (.int (own_gch xc)), .val (.int (own_gch xd)), .val (.ref b5), .unset, .unset] []))) (fun _ kk => XS.astore X5.here hx rfl (hb hby at_41) rfl rfl rfl (XS.goto X5.here hx rfl (pc0 := 43) (pc' := 143) rfl (hb hby at_43) (by decide) (by decide) kk)) ?_
  have HJ6 : ∀ (Tj6 : State) (Lj6 : List Loc), Stand p l e room_1 (s.setVm s.vm) m args below meth c Tj6 Lj6 1 0 → Tj6.heap = h5 → Fr n0 Lj6 → ∀ (xh xe : Int32), xe = own_lit [] → Go p e below (Tj6.setTop (mkF m 217 #[.val (.int ln), .val (.int xa), .val (.int xb), .val (.int xc), .val (.int xd), .val (.int (0 : Int32)), .val (.int (own_gch xa)), .val (.int (own_gch xb)), .val (.int (own_gch xc)), .val (.int (own_gch xd)), .val (.ref b5), .val (.int xh), .val (.int xe)] [])) (fun oo' U2' => ∃ vv' LL', oo' = .returned vv' ∧ (Q_rm0 Z ln xa xb xc xd gC gF h0 n0) vv' U2'.heap LL' ∧ CHr Z own_EL s.vm s.heap U2'.vm U2'.heap ∧ ReturnedEndW s oo' U2' LL' room_1.cells room_1.slots) := by
    intro Tj6 Lj6 Xj6 ej6 Nj6 xh xe hjHJ6
    obtain ⟨T7, h7, X7, e7, E7, A7, D7, -, st7⟩ := newO Xj6 hx hZ hown (wd 7 rfl) (wd 8 rfl) (wd 9 rfl) ej6 (g := (mkF m 217 #[.val (.int ln), .val (.int xa), .val (.int xb), .val (.int xc), .val (.int xd), .val (.int (0 : Int32)), .val (.int (own_gch xa)), .val (.int (own_gch xb)), .val (.int (own_gch xc)), .val (.int (own_gch xd)), .val (.ref b5), .val (.int xh), .val (.int xe)] [])) rfl (hb hby at_217) (by decide) (by decide)
    obtain ⟨b7, g7⟩ : ∃ z, z = h5.size := ⟨_, rfl⟩
    rw [← g7] at A7 D7 st7
    have hi7 := own_nlt A7.lt
    have sz7 := E7.1
    have HC7 := HC5.trans (CHr.ext E7 HC5.1)
    have F7_value : Fld Z h7 b7 "java/lang/String" "value" "[B" .null := D7 (Or.inr (wd 22 rfl)) (ty := (.array .byte)) (by decide)
    have F7_coder : Fld Z h7 b7 "java/lang/String" "coder" "B" (.int (0 : Int32)) := D7 (Or.inr (wd 23 rfl)) (ty := .byte) (by decide)
    refine go_of (B := (T7.setTop (mkF m 220 #[.val (.int ln), .val (.int xa), .val (.int xb), .val (.int xc), .val (.int xd), .val (.int (0 : Int32)), .val (.int (own_gch xa)), .val (.int (own_gch xb)), .val (.int (own_gch xc)), .val (.int (own_gch xd)), .val (.ref b5), .val (.int xh), .val (.int xe)] [(.ref b7)]))) (st7) ?_
    refine go_of (B := (T7.setTop (mkF m 223 #[.val (.int ln), .val (.int xa), .val (.int xb), .val (.int xc), .val (.int xd), .val (.int (0 : Int32)), .val (.int (own_gch xa)), .val (.int (own_gch xb)), .val (.int (own_gch xc)), .val (.int (own_gch xd)), .val (.ref b5), .val (.int xh), .val (.int xe)] [(.ref b5), (.ref b7), (.ref b7)]))) (fun _ kk => XS.dup X7.here hx rfl (hb hby at_220) rfl rfl (XS.aload X7.here hx rfl (hb hby at_221) rfl rfl kk)) ?_
    have cf_8 := (V5.ext E7)
    obtain ⟨_, _, ⟨T9, L9, k9, n9⟩, -, X9', hS9', gr9, ⟨Lc9, hQ9, l9, y9, z9, HR9⟩, st9⟩ := X7.specialBackS hx (y := MN5) rfl hown (mvT hZ (wd 10 rfl)) (mvT hZ (wd 11 rfl)) (mvT hZ (wd 12 rfl)) (by decide) (backOfSH (W := 1) (str_i1_0 l Z a0 hw [] b7 b5 _ k5 h7 n0 (by omega) A7 F7_value F7_coder (by first | omega | exact own_ne (by omega) | exact own_le (by omega)) cf_8) hZ (wd 12 rfl) (wd 9 rfl) (by decide) (by decide) hEL HC7.1) (g := (mkF m 223 #[.val (.int ln), .val (.int xa), .val (.int xb), .val (.int xc), .val (.int xd), .val (.int (0 : Int32)), .val (.int (own_gch xa)), .val (.int (own_gch xb)), .val (.int (own_gch xc)), .val (.int (own_gch xd)), .val (.ref b5), .val (.int xh), .val (.int xe)] [(.ref b5), (.ref b7), (.ref b7)])) rfl (by rw [hml]; rfl) (Steps.refl _) (a := b7) (argsL := [(.ref b5)]) (rest := [(.ref b7)]) (lenOf pd___C_V rfl) rfl (Nat.le_of_eq rfl) (hb hby at_223) (fun _ _ => ⟨rfl, e7, (by decide : 2 + 4 ≤ _), (by decide : 4 + 8 ≤ _)⟩)
    dsimp only [Pt.U, Pt.locs, Pt.cells, Pt.slots] at X9' hS9' gr9 l9 y9 z9 st9 hQ9 HR9
    subst l9 y9 z9
    have X9 : Stand _ _ _ _ (s.setVm T9.vm) _ _ _ _ _ T9 _ _ _ := X9'
    have hS : s.Since T9.vm T9.heap.size := foldS hS (by rw [e7]; omega) hS9' gr9
    have hZ : Z.Warmed39 (s.setVm T9.vm).vm := State.Warmed39.trans (t := s.setVm s.vm) hZ hS9'.1
    have hown : (s.setVm T9.vm).vm.findClass "com/example/grantline/grantline/GlobIsLiteralPinLaw" = some m.cls := by rw [show (s.setVm T9.vm).vm = T9.vm from rfl, hS9'.1.alike.findClass]; exact hown
    obtain ⟨rfl, N9q, K9, S9⟩ := hQ9
    have N9 := Fr.app Nj6 N9q
    have sz9 := K9.1
    have HC9 := HC7.trans HR9
    refine go_tr (B := (T9.setTop (mkF m 226 #[.val (.int ln), .val (.int xa), .val (.int xb), .val (.int xc), .val (.int xd), .val (.int (0 : Int32)), .val (.int (own_gch xa)), .val (.int (own_gch xb)), .val (.int (own_gch xc)), .val (.int (own_gch xd)), .val (.ref b5), .val (.int xh), .val (.int xe)] [(.ref b7)]))) (st9) ?_
    have cf_10 := (((O.ext E5).ext E7).keep K9 (allS (by first | omega | exact own_ne (by omega) | exact own_le (by omega)) all0))
    obtain ⟨_, _, ⟨T11, L11, k11, n11⟩, -, X11, ⟨Lc11, hQ11, l11, y11, z11⟩, st11⟩ := Jvm.LawKit.callS X9 hx (y := MN0) hown (mvT hZ (wd 28 rfl)) (mvT hZ (wd 29 rfl)) (mvT hZ (wd 30 rfl)) (mvT hZ (wd 31 rfl)) (by decide) (backOf (W := 0) (isl_0 l Z a0 hw [] b7  gC gF T9.heap n0 (by omega) cf_10 SC hgC S9 SU SF rgF) hZ (wd 31 rfl) (wd 30 rfl) (by decide) (by decide)) (g := (mkF m 226 #[.val (.int ln), .val (.int xa), .val (.int xb), .val (.int xc), .val (.int xd), .val (.int (0 : Int32)), .val (.int (own_gch xa)), .val (.int (own_gch xb)), .val (.int (own_gch xc)), .val (.int (own_gch xd)), .val (.ref b5), .val (.int xh), .val (.int xe)] [(.ref b7)])) rfl (by rw [hml]; rfl) (argsL := [(.ref b7)]) (rest := []) (lenOf pd__Ljava_lang_String__Z rfl) rfl (Nat.le_of_eq rfl) (hb hby at_226) (fun _ _ => ⟨rfl, rfl, (by decide : 6 + 0 ≤ _), (by decide : 12 + 0 ≤ _)⟩)
    dsimp only [Pt.U, Pt.locs, Pt.cells, Pt.slots] at X11 l11 y11 z11 st11 hQ11
    subst l11 y11 z11
    obtain ⟨rfl, N11q, e11⟩ := hQ11
    have N11 := Fr.app N9 N11q
    refine go_of (B := (T11.setTop (mkF m 229 #[.val (.int ln), .val (.int xa), .val (.int xb), .val (.int xc), .val (.int xd), .val (.int (0 : Int32)), .val (.int (own_gch xa)), .val (.int (own_gch xb)), .val (.int (own_gch xc)), .val (.int (own_gch xd)), .val (.ref b5), .val (.int xh), .val (.int xe)] [(.int (own_lit []))]))) (st11) ?_
    refine go_of (B := (T11.setTop (mkF m 239 #[.val (.int ln), .val (.int xa), .val (.int xb), .val (.int xc), .val (.int xd), .val (.int (0 : Int32)), .val (.int (own_gch xa)), .val (.int (own_gch xb)), .val (.int (own_gch xc)), .val (.int (own_gch xd)), .val (.ref b5), .val (.int xh), .val (.int xe)] [(.int (1 : Int32))]))) (fun _ kk => XS.iload X11.here hx rfl (hb hby at_229) rfl (XS.icmpNo X11.here hx rfl (hb hby at_231) rfl (teq hjHJ6.symm).2 (XS.iconst X11.here hx rfl (hb hby at_234) (XS.goto X11.here hx rfl (pc0 := 235) (pc' := 239) rfl (hb hby at_235) (by decide) (by decide) kk)))) ?_
    refine go_endH X11 hZ hEL HC9 hh0 e11 hS (by rw [e11]; omega) (v := some (.int (nar .boolean (1 : Int32)))) (fun h => by rw [hret] at h; cases h) hlk (by decide) (by decide) (Q := (Q_rm0 Z ln xa xb xc xd gC gF h0 n0)) ?_ (fun fs hr => retN X11 hx (t := .boolean) hret (by simp) (hb hby at_239) hr)
    unfold Q_rm0
    try rw [e11]
    exact ⟨rfl, N11⟩
  refine go_of (B := (T5.setTop (mkF m 172 #[.val (.int ln), .val (.int xa), .val (.int xb), .val (.int xc), .val (.int xd), .val (.int (0 : Int32)), .val (.int (own_gch xa)), .val (.int (own_gch xb)), .val (.int (own_gch xc)), .val (.int (own_gch xd)), .val (.ref b5), .unset, .unset] [(.int (0 : Int32))]))) (fun _ kk => XS.iload X5.here hx rfl (hb hby at_143) rfl (XS.ifYes X5.here hx rfl (pc0 := 145) (pc' := 156) rfl (hb hby at_145) rfl ((if0 _ _).trans (flt (by decide : ¬ ((0 : Int32) < (0 : Int32)))).2.2.2) (by decide) (by decide) (XS.iload X5.here hx rfl (hb hby at_156) rfl (XS.iconst X5.here hx rfl (hb hby at_158) (XS.icmpYes X5.here hx rfl (pc0 := 159) (pc' := 170) rfl (hb hby at_159) rfl (flt (by decide : ¬ ((1 : Int32) < (0 : Int32)))).2.2.2 (by decide) (by decide) (XS.iload X5.here hx rfl (hb hby at_170) rfl kk)))))) ?_
  refine go_of (B := (T5.setTop (mkF m 203 #[.val (.int ln), .val (.int xa), .val (.int xb), .val (.int xc), .val (.int xd), .val (.int (0 : Int32)), .val (.int (own_gch xa)), .val (.int (own_gch xb)), .val (.int (own_gch xc)), .val (.int (own_gch xd)), .val (.ref b5), .unset, .unset] [(.int (0 : Int32))]))) (fun _ kk => XS.iconst X5.here hx rfl (hb hby at_172) (XS.icmpYes X5.here hx rfl (pc0 := 173) (pc' := 184) rfl (hb hby at_173) rfl (flt (by decide : ¬ ((2 : Int32) < (0 : Int32)))).2.2.2 (by decide) (by decide) (XS.iload X5.here hx rfl (hb hby at_184) rfl (XS.iconst X5.here hx rfl (hb hby at_186) (XS.icmpYes X5.here hx rfl (pc0 := 187) (pc' := 202) rfl (hb hby at_187) rfl (flt (by decide : ¬ ((3 : Int32) < (0 : Int32)))).2.2.2 (by decide) (by decide) (XS.iconst X5.here hx rfl (hb hby at_202) kk)))))) ?_
  refine go_of (B := (T5.setTop (mkF m 217 #[.val (.int ln), .val (.int xa), .val (.int xb), .val (.int xc), .val (.int xd), .val (.int (0 : Int32)), .val (.int (own_gch xa)), .val (.int (own_gch xb)), .val (.int (own_gch xc)), .val (.int (own_gch xd)), .val (.ref b5), .val (.int (0 : Int32)), .val (.int (1 : Int32))] []))) (fun _ kk => XS.istore X5.here hx rfl (hb hby at_203) rfl rfl (XS.iload X5.here hx rfl (hb hby at_205) rfl (XS.ifNo X5.here hx rfl (hb hby at_207) rfl ((if0 _ _).trans (teq (by decide : (0 : Int32) = (0 : Int32))).2) (XS.iconst X5.here hx rfl (hb hby at_210) (XS.goto X5.here hx rfl (pc0 := 211) (pc' := 215) rfl (hb hby at_211) (by decide) (by decide) (XS.istore X5.here hx rfl (hb hby at_215) rfl rfl kk)))))) ?_
  exact HJ6 _ _ X5 e5 N4 (0 : Int32) (1 : Int32) (by rw [own_litn])
theorem pd__C_Z : parseMethodDescriptor "(C)Z" = some ⟨[.char], some .boolean⟩ := by decide +kernel
theorem lw1 {p : Program} {l : Launch} {e : Env} {s : State} {m : MethodId} {args : Array Value} {below : List Frame} {meth : Method} {c : Code} {Z : State} {a0 : Array Value} {h0 : Heap} {n0 : Nat} (ln : Int32) (xa : Int32) (xb : Int32) (xc : Int32) (xd : Int32) (gC : Int32) (gF : Value) {T0 : State} {locs : List Loc}
    (X0 : Stand p l e room_1 s m args below meth c T0 locs 0 0) (hx : p.tables.exec = Jvm.exec) (hZ : Z.Warmed39 s.vm) (hw : TW a0 Z) (hby : c.code = code) (hml : c.maxLocals = 13) (hown : s.vm.findClass "com/example/grantline/grantline/GlobIsLiteralPinLaw" = some m.cls) (hret : meth.sig.returnType = (some .boolean)) (hlk : meth.locks = false) (e0 : T0.heap = h0) (N0 : Fr n0 locs) (Z0 : n0 ≤ h0.size) (O : Old Z n0 h0) (SC : Sta Z Z.heap "java/lang/String" "COMPACT_STRINGS" "Z" (.int gC)) (hgC : ¬ gC = (0 : Int32)) (SU : US Z) (SF : Sta Z Z.heap "jdk/internal/util/Preconditions" "SIOOBE_FORMATTER" "Ljava/util/function/BiFunction;" gF) (rgF : gF.isRef = true) (hh0 : s.heap = h0) (hCH : CHv Z own_EL s.vm h0) :
    Go p e below (T0.setTop (mkF m 8 #[.val (.int ln), .val (.int xa), .val (.int xb), .val (.int xc), .val (.int xd), .val (.int (1 : Int32)), .unset, .unset, .unset, .unset, .unset, .unset, .unset] [])) (fun oo' U2' => ∃ vv' LL', oo' = .returned vv' ∧ (Q_rm0 Z ln xa xb xc xd gC gF h0 n0) vv' U2'.heap LL' ∧ CHr Z own_EL s.vm s.heap U2'.vm U2'.heap ∧ ReturnedEndW s oo' U2' LL' room_1.cells room_1.slots) := by
  have wd := @own_wd _ _ hw
  have X0 : Stand p l e room_1 (s.setVm s.vm) m args below meth c T0 locs 0 0 := X0
  have hS : s.Since s.vm 0 := (State.WarmedH.refl s).since 0
  have hEL := own_EW hw
  have HC0 := CHr.refl hCH
  refine go_of (B := (T0.setTop (mkF m 9 #[.val (.int ln), .val (.int xa), .val (.int xb), .val (.int xc), .val (.int xd), .val (.int (1 : Int32)), .unset, .unset, .unset, .unset, .unset, .unset, .unset] [(.int xa)]))) (fun _ kk => XS.iloadN X0.here hx rfl (hb hby at_8) rfl kk) ?_
  obtain ⟨_, _, ⟨T12, L12, k12, n12⟩, -, X12, ⟨Lc12, hQ12, l12, y12, z12⟩, st12⟩ := Jvm.LawKit.callS X0 hx (y := MN1) hown (mvT hZ (wd 1 rfl)) (mvT hZ (wd 2 rfl)) (mvT hZ (wd 3 rfl)) (mvT hZ (wd 4 rfl)) (by decide) (backOf (W := 0) (gch l Z a0 hw [] xa h0 n0 (by omega)) hZ (wd 4 rfl) (wd 3 rfl) (by decide) (by decide)) (g := (mkF m 9 #[.val (.int ln), .val (.int xa), .val (.int xb), .val (.int xc), .val (.int xd), .val (.int (1 : Int32)), .unset, .unset, .unset, .unset, .unset, .unset, .unset] [(.int xa)])) rfl (by rw [hml]; rfl) (argsL := [(.int xa)]) (rest := []) (lenOf pd__I_C rfl) rfl (Nat.le_of_eq rfl) (hb hby at_9) (fun _ _ => ⟨rfl, e0, (by decide : 0 + 0 ≤ _), (by decide : 0 + 0 ≤ _)⟩)
  dsimp only [Pt.U, Pt.locs, Pt.cells, Pt.slots] at X12 l12 y12 z12 st12 hQ12
  subst l12 y12 z12
  obtain ⟨rfl, N12q, e12⟩ := hQ12
  have N12 := Fr.app N0 N12q
  refine go_of (B := (T12.setTop (mkF m 12 #[.val (.int ln), .val (.int xa), .val (.int xb), .val (.int xc), .val (.int xd), .val (.int (1 : Int32)), .unset, .unset, .unset, .unset, .unset, .unset, .unset] [(.int (own_gch xa))]))) (st12) ?_
  refine go_of (B := (T12.setTop (mkF m 15 #[.val (.int ln), .val (.int xa), .val (.int xb), .val (.int xc), .val (.int xd), .val (.int (1 : Int32)), .val (.int (own_gch xa)), .unset, .unset, .unset, .unset, .unset, .unset] [(.int xb)]))) (fun _ kk => XS.istore X12.here hx rfl (hb hby at_12) rfl rfl (XS.iloadN X12.here hx rfl (hb hby at_14) rfl kk)) ?_
  obtain ⟨_, _, ⟨T13, L13, k13, n13⟩, -, X13, ⟨Lc13, hQ13, l13, y13, z13⟩, st13⟩ := Jvm.LawKit.callS X12 hx (y := MN1) hown (mvT hZ (wd 1 rfl)) (mvT hZ (wd 2 rfl)) (mvT hZ (wd 3 rfl)) (mvT hZ (wd 4 rfl)) (by decide) (backOf (W := 0) (gch l Z a0 hw [] xb h0 n0 (by omega)) hZ (wd 4 rfl) (wd 3 rfl) (by decide) (by decide)) (g := (mkF m 15 #[.val (.int ln), .val (.int xa), .val (.int xb), .val (.int xc), .val (.int xd), .val (.int (1 : Int32)), .val (.int (own_gch xa)), .unset, .unset, .unset, .unset, .unset, .unset] [(.int xb)])) rfl (by rw [hml]; rfl) (argsL := [(.int xb)]) (rest := []) (lenOf pd__I_C rfl) rfl (Nat.le_of_eq rfl) (hb hby at_15) (fun _ _ => ⟨rfl, e12, (by decide : 0 + 0 ≤ _), (by decide : 0 + 0 ≤ _)⟩)
  dsimp only [Pt.U, Pt.locs, Pt.cells, Pt.slots] at X13 l13 y13 z13 st13 hQ13
  subst l13 y13 z13
  obtain ⟨rfl, N13q, e13⟩ := hQ13
  have N13 := Fr.app N12 N13q
  refine go_of (B := (T13.setTop (mkF m 18 #[.val (.int ln), .val (.int xa), .val (.int xb), .val (.int xc), .val (.int xd), .val (.int (1 : Int32)), .val (.int (own_gch xa)), .unset, .unset, .unset, .unset, .unset, .unset] [(.int (own_gch xb))]))) (st13) ?_
  refine go_of (B := (T13.setTop (mkF m 21 #[.val (.int ln), .val (.int xa), .val (.int xb), .val (.int xc), .val (.int xd), .val (.int (1 : Int32)), .val (.int (own_gch xa)), .val (.int (own_gch xb)), .unset, .unset, .unset, .unset, .unset] [(.int xc)]))) (fun _ kk => XS.istore X13.here hx rfl (hb hby at_18) rfl rfl (XS.iloadN X13.here hx rfl (hb hby at_20) rfl kk)) ?_
  obtain ⟨_, _, ⟨T14, L14, k14, n14⟩, -, X14, ⟨Lc14, hQ14, l14, y14, z14⟩, st14⟩ := Jvm.LawKit.callS X13 hx (y := MN1) hown (mvT hZ (wd 1 rfl)) (mvT hZ (wd 2 rfl)) (mvT hZ (wd 3 rfl)) (mvT hZ (wd 4 rfl)) (by decide) (backOf (W := 0) (gch l Z a0 hw [] xc h0 n0 (by omega)) hZ (wd 4 rfl) (wd 3 rfl) (by decide) (by decide)) (g := (mkF m 21 #[.val (.int ln), .val (.int xa), .val (.int xb), .val (.int xc), .val (.int xd), .val (.int (1 : Int32)), .val (.int (own_gch xa)), .val (.int (own_gch xb)), .unset, .unset, .unset, .unset, .unset] [(.int xc)])) rfl (by rw [hml]; rfl) (argsL := [(.int xc)]) (rest := []) (lenOf pd__I_C rfl) rfl (Nat.le_of_eq rfl) (hb hby at_21) (fun _ _ => ⟨rfl, e13, (by decide : 0 + 0 ≤ _), (by decide : 0 + 0 ≤ _)⟩)
  dsimp only [Pt.U, Pt.locs, Pt.cells, Pt.slots] at X14 l14 y14 z14 st14 hQ14
  subst l14 y14 z14
  obtain ⟨rfl, N14q, e14⟩ := hQ14
  have N14 := Fr.app N13 N14q
  refine go_of (B := (T14.setTop (mkF m 24 #[.val (.int ln), .val (.int xa), .val (.int xb), .val (.int xc), .val (.int xd), .val (.int (1 : Int32)), .val (.int (own_gch xa)), .val (.int (own_gch xb)), .unset, .unset, .unset, .unset, .unset] [(.int (own_gch xc))]))) (st14) ?_
  refine go_of (B := (T14.setTop (mkF m 28 #[.val (.int ln), .val (.int xa), .val (.int xb), .val (.int xc), .val (.int xd), .val (.int (1 : Int32)), .val (.int (own_gch xa)), .val (.int (own_gch xb)), .val (.int (own_gch xc)), .unset, .unset, .unset, .unset] [(.int xd)]))) (fun _ kk => XS.istore X14.here hx rfl (hb hby at_24) rfl rfl (XS.iload X14.here hx rfl (hb hby at_26) rfl kk)) ?_
  obtain ⟨_, _, ⟨T15, L15, k15, n15⟩, -, X15, ⟨Lc15, hQ15, l15, y15, z15⟩, st15⟩ := Jvm.LawKit.callS X14 hx (y := MN1) hown (mvT hZ (wd 1 rfl)) (mvT hZ (wd 2 rfl)) (mvT hZ (wd 3 rfl)) (mvT hZ (wd 4 rfl)) (by decide) (backOf (W := 0) (gch l Z a0 hw [] xd h0 n0 (by omega)) hZ (wd 4 rfl) (wd 3 rfl) (by decide) (by decide)) (g := (mkF m 28 #[.val (.int ln), .val (.int xa), .val (.int xb), .val (.int xc), .val (.int xd), .val (.int (1 : Int32)), .val (.int (own_gch xa)), .val (.int (own_gch xb)), .val (.int (own_gch xc)), .unset, .unset, .unset, .unset] [(.int xd)])) rfl (by rw [hml]; rfl) (argsL := [(.int xd)]) (rest := []) (lenOf pd__I_C rfl) rfl (Nat.le_of_eq rfl) (hb hby at_28) (fun _ _ => ⟨rfl, e14, (by decide : 0 + 0 ≤ _), (by decide : 0 + 0 ≤ _)⟩)
  dsimp only [Pt.U, Pt.locs, Pt.cells, Pt.slots] at X15 l15 y15 z15 st15 hQ15
  subst l15 y15 z15
  obtain ⟨rfl, N15q, e15⟩ := hQ15
  have N15 := Fr.app N14 N15q
  refine go_of (B := (T15.setTop (mkF m 31 #[.val (.int ln), .val (.int xa), .val (.int xb), .val (.int xc), .val (.int xd), .val (.int (1 : Int32)), .val (.int (own_gch xa)), .val (.int (own_gch xb)), .val (.int (own_gch xc)), .unset, .unset, .unset, .unset] [(.int (own_gch xd))]))) (st15) ?_
  refine go_of (B := (T15.setTop (mkF m 52 #[.val (.int ln), .val (.int xa), .val (.int xb), .val (.int xc), .val (.int xd), .val (.int (1 : Int32)), .val (.int (own_gch xa)), .val (.int (own_gch xb)), .val (.int (own_gch xc)), .val (.int (own_gch xd)), .unset, .unset, .unset] []))) (fun _ kk => XS.istore X15.here hx rfl (hb hby at_31) rfl rfl (XS.iload X15.here hx rfl (hb hby at_33) rfl (XS.ifYes X15.here hx rfl (pc0 := 35) (pc' := 46) rfl (hb hby at_35) rfl ((if0 _ _).trans (feq (by decide : ¬ ((1 : Int32) = (0 : Int32)))).2) (by decide) (by decide) (XS.iload X15.here hx rfl (hb hby at_46) rfl (XS.iconst X15.here hx rfl (hb hby at_48) (XS.icmpNo X15.here hx rfl (hb hby at_49) rfl (teq (by decide : (1 : Int32) = (1 : Int32))).2 kk)))))) ?_
  refine go_of (B := (T15.setTop (mkF m 53 #[.val (.int ln), .val (.int xa), .val (.int xb), .val (.int xc), .val (.int xd), .val (.int (1 : Int32)), .val (.int (own_gch xa)), .val (.int (own_gch xb)), .val (.int (own_gch xc)), .val (.int (own_gch xd)), .unset, .unset, .unset] [(.int (1 : Int32))]))) (fun _ kk => XS.iconst X15.here hx rfl (hb hby at_52) kk) ?_
  obtain ⟨T16, h16, k16, X16, e16, E16, A16, st16⟩ := newP X15 hx hZ (wd 6 rfl) e15 (g := (mkF m 53 #[.val (.int ln), .val (.int xa), .val (.int xb), .val (.int xc), .val (.int xd), .val (.int (1 : Int32)), .val (.int (own_gch xa)), .val (.int (own_gch xb)), .val (.int (own_gch xc)), .val (.int (own_gch xd)), .unset, .unset, .unset] [(.int (1 : Int32))])) rfl (hb hby at_53) rfl (by decide) (cap := 1) (by decide) (by decide) (by decide) (by decide)
  obtain ⟨b16, g16⟩ : ∃ z, z = h0.size := ⟨_, rfl⟩
  rw [← g16] at A16 st16
  have hi16 := own_nlt A16.lt
  have sz16 := E16.1
  have HC16 := HC0.trans (CHr.ext E16 HC0.1)
  have V16 : Arv Z h16 b16 k16 .char (1 : Int32) [(.int (0 : Int32))] (.int (0 : Int32)) := (Arv.new A16 (by decide)).pad (pad_rep [] (.int (0 : Int32)) 1)
  refine go_of (B := (T16.setTop (mkF m 55 #[.val (.int ln), .val (.int xa), .val (.int xb), .val (.int xc), .val (.int xd), .val (.int (1 : Int32)), .val (.int (own_gch xa)), .val (.int (own_gch xb)), .val (.int (own_gch xc)), .val (.int (own_gch xd)), .unset, .unset, .unset] [(.ref b16)]))) (st16) ?_
  refine go_of (B := (T16.setTop (mkF m 59 #[.val (.int ln), .val (.int xa), .val (.int xb), .val (.int xc), .val (.int xd), .val (.int (1 : Int32)), .val (.int (own_gch xa)), .val (.int (own_gch xb)), .val (.int (own_gch xc)), .val (.int (own_gch xd)), .unset, .unset, .unset] [(.int (own_gch xa)), (.int (0 : Int32)), (.ref b16), (.ref b16)]))) (fun _ kk => XS.dup X16.here hx rfl (hb hby at_55) rfl rfl (XS.iconst X16.here hx rfl (hb hby at_56) (XS.iload X16.here hx rfl (hb hby at_57) rfl kk))) ?_
  obtain ⟨cl17, Ar17, q17, Sz17, Nn17, Hh17, G17⟩ := id (V16)
  obtain ⟨T18, h18, X18, e18, W18, st18⟩ := stC X16 hx hZ e16 Ar17 (j := (0 : Int32)) (inb_of Sz17 ⟨by decide, by decide⟩) (g := (mkF m 59 #[.val (.int ln), .val (.int xa), .val (.int xb), .val (.int xc), .val (.int xd), .val (.int (1 : Int32)), .val (.int (own_gch xa)), .val (.int (own_gch xb)), .val (.int (own_gch xc)), .val (.int (own_gch xd)), .unset, .unset, .unset] [(.int (own_gch xa)), (.int (0 : Int32)), (.ref b16), (.ref b16)])) rfl rfl (hb hby at_59)
  have sz18 := W18.size
  have N18 := Fr.snoc X18 N15 ((by first | omega | exact own_ne (by omega) | exact own_le (by omega)) : n0 ≤ b16)
  have V18 : Arv Z h18 b16 k16 .char (1 : Int32) [(.int (nar .char (own_gch xa)))] (.int (0 : Int32)) := Arv.set Ar17 q17 Sz17 Nn17 Hh17 G17 (fits_nar_char _) W18 0 rfl (Nat.le_of_ble_eq_true rfl)
  rw [own_narc16 (own_gchr xa)] at V18
  have SF18 := (own_safe_arv hZ.alike V16 (by decide) : (Safe Z own_EL _ h16 b16))
  have HC18 := HC16.trans (CHr.wr W18 SF18 HC16.1)
  refine go_of (B := (T18.setTop (mkF m 60 #[.val (.int ln), .val (.int xa), .val (.int xb), .val (.int xc), .val (.int xd), .val (.int (1 : Int32)), .val (.int (own_gch xa)), .val (.int (own_gch xb)), .val (.int (own_gch xc)), .val (.int (own_gch xd)), .unset, .unset, .unset] [(.ref b16)]))) (st18) ?_
  refine go_of (B := (T18.setTop (mkF m 143 #[.val (.int ln), .val (.int xa), .val (.int xb), .val (.int xc), .val (.int xd), .val (.int (1 : Int32)), .val (.int (own_gch xa)), .val (.int (own_gch xb)), .val (.int (own_gch xc)), .val (.int (own_gch xd)), .val (.ref b16), .unset, .unset] []))) (fun _ kk => XS.astore X18.here hx rfl (hb hby at_60) rfl rfl rfl (XS.goto X18.here hx rfl (pc0 := 62) (pc' := 143) rfl (hb hby at_62) (by decide) (by decide) kk)) ?_
  have HJ19 : ∀ (Tj19 : State) (Lj19 : List Loc), Stand p l e room_1 (s.setVm s.vm) m args below meth c Tj19 Lj19 1 1 → Tj19.heap = h18 → Fr n0 Lj19 → ∀ (xh xe : Int32), xe = own_lit [(own_gch xa)] → Go p e below (Tj19.setTop (mkF m 217 #[.val (.int ln), .val (.int xa), .val (.int xb), .val (.int xc), .val (.int xd), .val (.int (1 : Int32)), .val (.int (own_gch xa)), .val (.int (own_gch xb)), .val (.int (own_gch xc)), .val (.int (own_gch xd)), .val (.ref b16), .val (.int xh), .val (.int xe)] [])) (fun oo' U2' => ∃ vv' LL', oo' = .returned vv' ∧ (Q_rm0 Z ln xa xb xc xd gC gF h0 n0) vv' U2'.heap LL' ∧ CHr Z own_EL s.vm s.heap U2'.vm U2'.heap ∧ ReturnedEndW s oo' U2' LL' room_1.cells room_1.slots) := by
    intro Tj19 Lj19 Xj19 ej19 Nj19 xh xe hjHJ19
    obtain ⟨T20, h20, X20, e20, E20, A20, D20, -, st20⟩ := newO Xj19 hx hZ hown (wd 7 rfl) (wd 8 rfl) (wd 9 rfl) ej19 (g := (mkF m 217 #[.val (.int ln), .val (.int xa), .val (.int xb), .val (.int xc), .val (.int xd), .val (.int (1 : Int32)), .val (.int (own_gch xa)), .val (.int (own_gch xb)), .val (.int (own_gch xc)), .val (.int (own_gch xd)), .val (.ref b16), .val (.int xh), .val (.int xe)] [])) rfl (hb hby at_217) (by decide) (by decide)
    obtain ⟨b20, g20⟩ : ∃ z, z = h18.size := ⟨_, rfl⟩
    rw [← g20] at A20 D20 st20
    have hi20 := own_nlt A20.lt
    have sz20 := E20.1
    have HC20 := HC18.trans (CHr.ext E20 HC18.1)
    have F20_value : Fld Z h20 b20 "java/lang/String" "value" "[B" .null := D20 (Or.inr (wd 22 rfl)) (ty := (.array .byte)) (by decide)
    have F20_coder : Fld Z h20 b20 "java/lang/String" "coder" "B" (.int (0 : Int32)) := D20 (Or.inr (wd 23 rfl)) (ty := .byte) (by decide)
    refine go_of (B := (T20.setTop (mkF m 220 #[.val (.int ln), .val (.int xa), .val (.int xb), .val (.int xc), .val (.int xd), .val (.int (1 : Int32)), .val (.int (own_gch xa)), .val (.int (own_gch xb)), .val (.int (own_gch xc)), .val (.int (own_gch xd)), .val (.ref b16), .val (.int xh), .val (.int xe)] [(.ref b20)]))) (st20) ?_
    refine go_of (B := (T20.setTop (mkF m 223 #[.val (.int ln), .val (.int xa), .val (.int xb), .val (.int xc), .val (.int xd), .val (.int (1 : Int32)), .val (.int (own_gch xa)), .val (.int (own_gch xb)), .val (.int (own_gch xc)), .val (.int (own_gch xd)), .val (.ref b16), .val (.int xh), .val (.int xe)] [(.ref b16), (.ref b20), (.ref b20)]))) (fun _ kk => XS.dup X20.here hx rfl (hb hby at_220) rfl rfl (XS.aload X20.here hx rfl (hb hby at_221) rfl rfl kk)) ?_
    have sf_21 := (own_safe_null hZ.alike A20 F20_value : (Safe Z own_EL _ h20 b20))
    have cf_22 := (((O.ext E16).wr W18 (by first | omega | exact own_ne (by omega) | exact own_le (by omega))).ext E20)
    have cf_23 := (V18.ext E20)
    obtain ⟨_, _, ⟨T24, L24, k24, n24⟩, -, X24, ⟨Lc24, hQ24, l24, y24, z24⟩, st24⟩ := X20.specialBack hx (y := MN5) rfl hown (mvT hZ (wd 10 rfl)) (mvT hZ (wd 11 rfl)) (mvT hZ (wd 12 rfl)) (by decide) (backOf (W := 1) (u_i1_1 l Z a0 hw [] b20 b16 (own_gch xa) k16 gC _ _ h20 n0 (by omega) cf_22 SC hgC SU A20 F20_value F20_coder (by first | omega | exact own_ne (by omega) | exact own_le (by omega)) cf_23 (own_gchr xa)) hZ (wd 12 rfl) (wd 9 rfl) (by decide) (by decide)) (g := (mkF m 223 #[.val (.int ln), .val (.int xa), .val (.int xb), .val (.int xc), .val (.int xd), .val (.int (1 : Int32)), .val (.int (own_gch xa)), .val (.int (own_gch xb)), .val (.int (own_gch xc)), .val (.int (own_gch xd)), .val (.ref b16), .val (.int xh), .val (.int xe)] [(.ref b16), (.ref b20), (.ref b20)])) rfl (by rw [hml]; rfl) (Steps.refl _) (a := b20) (argsL := [(.ref b16)]) (rest := [(.ref b20)]) (lenOf pd___C_V rfl) rfl (Nat.le_of_eq rfl) (hb hby at_223) (fun _ _ => ⟨rfl, e20, (by decide : 2 + 2 ≤ _), (by decide : 5 + 3 ≤ _)⟩)
    dsimp only [Pt.U, Pt.locs, Pt.cells, Pt.slots] at X24 l24 y24 z24 st24 hQ24
    subst l24 y24 z24
    obtain ⟨rfl, N24q, K24, S24⟩ := hQ24
    have N24 := Fr.app Nj19 N24q
    have sz24 := K24.1
    have SK24 : ∀ x ∈ [b20], Safe Z own_EL _ h20 x := (allS sf_21 all0)
    have HC24 := HC20.trans (CHr.keep K24 SK24 HC20.1)
    refine go_tr (B := (T24.setTop (mkF m 226 #[.val (.int ln), .val (.int xa), .val (.int xb), .val (.int xc), .val (.int xd), .val (.int (1 : Int32)), .val (.int (own_gch xa)), .val (.int (own_gch xb)), .val (.int (own_gch xc)), .val (.int (own_gch xd)), .val (.ref b16), .val (.int xh), .val (.int xe)] [(.ref b20)]))) (st24) ?_
    have cf_25 := (cf_22.keep K24 (allS (by first | omega | exact own_ne (by omega) | exact own_le (by omega)) all0))
    obtain ⟨_, _, ⟨T26, L26, k26, n26⟩, -, X26, ⟨Lc26, hQ26, l26, y26, z26⟩, st26⟩ := Jvm.LawKit.callS X24 hx (y := MN0) hown (mvT hZ (wd 28 rfl)) (mvT hZ (wd 29 rfl)) (mvT hZ (wd 30 rfl)) (mvT hZ (wd 31 rfl)) (by decide) (backOf (W := 0) (isl_1 l Z a0 hw [] b20 (own_gch xa) gC gF T24.heap n0 (by omega) cf_25 SC hgC S24 SU SF rgF) hZ (wd 31 rfl) (wd 30 rfl) (by decide) (by decide)) (g := (mkF m 226 #[.val (.int ln), .val (.int xa), .val (.int xb), .val (.int xc), .val (.int xd), .val (.int (1 : Int32)), .val (.int (own_gch xa)), .val (.int (own_gch xb)), .val (.int (own_gch xc)), .val (.int (own_gch xd)), .val (.ref b16), .val (.int xh), .val (.int xe)] [(.ref b20)])) rfl (by rw [hml]; rfl) (argsL := [(.ref b20)]) (rest := []) (lenOf pd__Ljava_lang_String__Z rfl) rfl (Nat.le_of_eq rfl) (hb hby at_226) (fun _ _ => ⟨rfl, rfl, (by decide : 4 + 0 ≤ _), (by decide : 8 + 0 ≤ _)⟩)
    dsimp only [Pt.U, Pt.locs, Pt.cells, Pt.slots] at X26 l26 y26 z26 st26 hQ26
    subst l26 y26 z26
    obtain ⟨rfl, N26q, e26⟩ := hQ26
    have N26 := Fr.app N24 N26q
    refine go_of (B := (T26.setTop (mkF m 229 #[.val (.int ln), .val (.int xa), .val (.int xb), .val (.int xc), .val (.int xd), .val (.int (1 : Int32)), .val (.int (own_gch xa)), .val (.int (own_gch xb)), .val (.int (own_gch xc)), .val (.int (own_gch xd)), .val (.ref b16), .val (.int xh), .val (.int xe)] [(.int (own_lit [(own_gch xa)]))]))) (st26) ?_
    refine go_of (B := (T26.setTop (mkF m 239 #[.val (.int ln), .val (.int xa), .val (.int xb), .val (.int xc), .val (.int xd), .val (.int (1 : Int32)), .val (.int (own_gch xa)), .val (.int (own_gch xb)), .val (.int (own_gch xc)), .val (.int (own_gch xd)), .val (.ref b16), .val (.int xh), .val (.int xe)] [(.int (1 : Int32))]))) (fun _ kk => XS.iload X26.here hx rfl (hb hby at_229) rfl (XS.icmpNo X26.here hx rfl (hb hby at_231) rfl (teq hjHJ19.symm).2 (XS.iconst X26.here hx rfl (hb hby at_234) (XS.goto X26.here hx rfl (pc0 := 235) (pc' := 239) rfl (hb hby at_235) (by decide) (by decide) kk)))) ?_
    refine go_endH X26 hZ hEL HC24 hh0 e26 hS (by rw [e26]; omega) (v := some (.int (nar .boolean (1 : Int32)))) (fun h => by rw [hret] at h; cases h) hlk (by decide) (by decide) (Q := (Q_rm0 Z ln xa xb xc xd gC gF h0 n0)) ?_ (fun fs hr => retN X26 hx (t := .boolean) hret (by simp) (hb hby at_239) hr)
    unfold Q_rm0
    try rw [e26]
    exact ⟨rfl, N26⟩
  refine go_of (B := (T18.setTop (mkF m 150 #[.val (.int ln), .val (.int xa), .val (.int xb), .val (.int xc), .val (.int xd), .val (.int (1 : Int32)), .val (.int (own_gch xa)), .val (.int (own_gch xb)), .val (.int (own_gch xc)), .val (.int (own_gch xd)), .val (.ref b16), .unset, .unset] [(.int (own_gch xa))]))) (fun _ kk => XS.iload X18.here hx rfl (hb hby at_143) rfl (XS.ifNo X18.here hx rfl (hb hby at_145) rfl ((if0 _ _).trans (tlt (by decide : (0 : Int32) < (1 : Int32))).2.2.2) (XS.iload X18.here hx rfl (hb hby at_148) rfl kk))) ?_
  obtain ⟨_, _, ⟨T27, L27, k27, n27⟩, -, X27, ⟨Lc27, hQ27, l27, y27, z27⟩, st27⟩ := Jvm.LawKit.callS X18 hx (y := MN2) hown (mvT hZ (wd 72 rfl)) (mvT hZ (wd 73 rfl)) (mvT hZ (wd 3 rfl)) (mvT hZ (wd 74 rfl)) (by decide) (backOf (W := 0) (wld l Z a0 hw [] (own_gch xa) h18 n0 (by omega)) hZ (wd 74 rfl) (wd 3 rfl) (by decide) (by decide)) (g := (mkF m 150 #[.val (.int ln), .val (.int xa), .val (.int xb), .val (.int xc), .val (.int xd), .val (.int (1 : Int32)), .val (.int (own_gch xa)), .val (.int (own_gch xb)), .val (.int (own_gch xc)), .val (.int (own_gch xd)), .val (.ref b16), .unset, .unset] [(.int (own_gch xa))])) rfl (by rw [hml]; rfl) (argsL := [(.int (own_gch xa))]) (rest := []) (lenOf pd__C_Z rfl) rfl (Nat.le_of_eq rfl) (hb hby at_150) (fun _ _ => ⟨rfl, e18, (by decide : 1 + 0 ≤ _), (by decide : 1 + 0 ≤ _)⟩)
  dsimp only [Pt.U, Pt.locs, Pt.cells, Pt.slots] at X27 l27 y27 z27 st27 hQ27
  subst l27 y27 z27
  obtain ⟨rfl, N27q, e27⟩ := hQ27
  have N27 := Fr.app N18 N27q
  refine go_of (B := (T27.setTop (mkF m 153 #[.val (.int ln), .val (.int xa), .val (.int xb), .val (.int xc), .val (.int xd), .val (.int (1 : Int32)), .val (.int (own_gch xa)), .val (.int (own_gch xb)), .val (.int (own_gch xc)), .val (.int (own_gch xd)), .val (.ref b16), .unset, .unset] [(.int (own_wl (own_gch xa)))]))) (st27) ?_
  by_cases hcc28 : (own_wl (own_gch xa)) = (0 : Int32)
  · refine go_of (B := (T27.setTop (mkF m 173 #[.val (.int ln), .val (.int xa), .val (.int xb), .val (.int xc), .val (.int xd), .val (.int (1 : Int32)), .val (.int (own_gch xa)), .val (.int (own_gch xb)), .val (.int (own_gch xc)), .val (.int (own_gch xd)), .val (.ref b16), .unset, .unset] [(.int (2 : Int32)), (.int (1 : Int32))]))) (fun _ kk => XS.ifNo X27.here hx rfl (hb hby at_153) rfl ((if0 _ _).trans (teq hcc28).2) (XS.iload X27.here hx rfl (hb hby at_156) rfl (XS.iconst X27.here hx rfl (hb hby at_158) (XS.icmpYes X27.here hx rfl (pc0 := 159) (pc' := 170) rfl (hb hby at_159) rfl (flt (by decide : ¬ ((1 : Int32) < (1 : Int32)))).2.2.2 (by decide) (by decide) (XS.iload X27.here hx rfl (hb hby at_170) rfl (XS.iconst X27.here hx rfl (hb hby at_172) kk)))))) ?_
    refine go_of (B := (T27.setTop (mkF m 205 #[.val (.int ln), .val (.int xa), .val (.int xb), .val (.int xc), .val (.int xd), .val (.int (1 : Int32)), .val (.int (own_gch xa)), .val (.int (own_gch xb)), .val (.int (own_gch xc)), .val (.int (own_gch xd)), .val (.ref b16), .val (.int (0 : Int32)), .unset] []))) (fun _ kk => XS.icmpYes X27.here hx rfl (pc0 := 173) (pc' := 184) rfl (hb hby at_173) rfl (flt (by decide : ¬ ((2 : Int32) < (1 : Int32)))).2.2.2 (by decide) (by decide) (XS.iload X27.here hx rfl (hb hby at_184) rfl (XS.iconst X27.here hx rfl (hb hby at_186) (XS.icmpYes X27.here hx rfl (pc0 := 187) (pc' := 202) rfl (hb hby at_187) rfl (flt (by decide : ¬ ((3 : Int32) < (1 : Int32)))).2.2.2 (by decide) (by decide) (XS.iconst X27.here hx rfl (hb hby at_202) (XS.istore X27.here hx rfl (hb hby at_203) rfl rfl kk)))))) ?_
    refine go_of (B := (T27.setTop (mkF m 217 #[.val (.int ln), .val (.int xa), .val (.int xb), .val (.int xc), .val (.int xd), .val (.int (1 : Int32)), .val (.int (own_gch xa)), .val (.int (own_gch xb)), .val (.int (own_gch xc)), .val (.int (own_gch xd)), .val (.ref b16), .val (.int (0 : Int32)), .val (.int (1 : Int32))] []))) (fun _ kk => XS.iload X27.here hx rfl (hb hby at_205) rfl (XS.ifNo X27.here hx rfl (hb hby at_207) rfl ((if0 _ _).trans (teq (by decide : (0 : Int32) = (0 : Int32))).2) (XS.iconst X27.here hx rfl (hb hby at_210) (XS.goto X27.here hx rfl (pc0 := 211) (pc' := 215) rfl (hb hby at_211) (by decide) (by decide) (XS.istore X27.here hx rfl (hb hby at_215) rfl rfl kk))))) ?_
    exact HJ19 _ _ X27 e27 N27 (0 : Int32) (1 : Int32) (by rw [own_litc hcc28, own_litn])
  · refine go_of (B := (T27.setTop (mkF m 214 #[.val (.int ln), .val (.int xa), .val (.int xb), .val (.int xc), .val (.int xd), .val (.int (1 : Int32)), .val (.int (own_gch xa)), .val (.int (own_gch xb)), .val (.int (own_gch xc)), .val (.int (own_gch xd)), .val (.ref b16), .val (.int (1 : Int32)), .unset] []))) (fun _ kk => XS.ifYes X27.here hx rfl (pc0 := 153) (pc' := 198) rfl (hb hby at_153) rfl ((if0 _ _).trans (feq hcc28).2) (by decide) (by decide) (XS.iconst X27.here hx rfl (hb hby at_198) (XS.goto X27.here hx rfl (pc0 := 199) (pc' := 203) rfl (hb hby at_199) (by decide) (by decide) (XS.istore X27.here hx rfl (hb hby at_203) rfl rfl (XS.iload X27.here hx rfl (hb hby at_205) rfl (XS.ifYes X27.here hx rfl (pc0 := 207) (pc' := 214) rfl (hb hby at_207) rfl ((if0 _ _).trans (feq (by decide : ¬ ((1 : Int32) = (0 : Int32)))).2) (by decide) (by decide) kk)))))) ?_
    refine go_of (B := (T27.setTop (mkF m 217 #[.val (.int ln), .val (.int xa), .val (.int xb), .val (.int xc), .val (.int xd), .val (.int (1 : Int32)), .val (.int (own_gch xa)), .val (.int (own_gch xb)), .val (.int (own_gch xc)), .val (.int (own_gch xd)), .val (.ref b16), .val (.int (1 : Int32)), .val (.int (0 : Int32))] []))) (fun _ kk => XS.iconst X27.here hx rfl (hb hby at_214) (XS.istore X27.here hx rfl (hb hby at_215) rfl rfl kk)) ?_
    exact HJ19 _ _ X27 e27 N27 (1 : Int32) (0 : Int32) (by rw [own_litw hcc28])
theorem lw2 {p : Program} {l : Launch} {e : Env} {s : State} {m : MethodId} {args : Array Value} {below : List Frame} {meth : Method} {c : Code} {Z : State} {a0 : Array Value} {h0 : Heap} {n0 : Nat} (ln : Int32) (xa : Int32) (xb : Int32) (xc : Int32) (xd : Int32) (gC : Int32) (gF : Value) {T0 : State} {locs : List Loc}
    (X0 : Stand p l e room_1 s m args below meth c T0 locs 0 0) (hx : p.tables.exec = Jvm.exec) (hZ : Z.Warmed39 s.vm) (hw : TW a0 Z) (hby : c.code = code) (hml : c.maxLocals = 13) (hown : s.vm.findClass "com/example/grantline/grantline/GlobIsLiteralPinLaw" = some m.cls) (hret : meth.sig.returnType = (some .boolean)) (hlk : meth.locks = false) (e0 : T0.heap = h0) (N0 : Fr n0 locs) (Z0 : n0 ≤ h0.size) (O : Old Z n0 h0) (SC : Sta Z Z.heap "java/lang/String" "COMPACT_STRINGS" "Z" (.int gC)) (hgC : ¬ gC = (0 : Int32)) (SU : US Z) (SF : Sta Z Z.heap "jdk/internal/util/Preconditions" "SIOOBE_FORMATTER" "Ljava/util/function/BiFunction;" gF) (rgF : gF.isRef = true) (hh0 : s.heap = h0) (hCH : CHv Z own_EL s.vm h0) :
    Go p e below (T0.setTop (mkF m 8 #[.val (.int ln), .val (.int xa), .val (.int xb), .val (.int xc), .val (.int xd), .val (.int (2 : Int32)), .unset, .unset, .unset, .unset, .unset, .unset, .unset] [])) (fun oo' U2' => ∃ vv' LL', oo' = .returned vv' ∧ (Q_rm0 Z ln xa xb xc xd gC gF h0 n0) vv' U2'.heap LL' ∧ CHr Z own_EL s.vm s.heap U2'.vm U2'.heap ∧ ReturnedEndW s oo' U2' LL' room_1.cells room_1.slots) := by
  have wd := @own_wd _ _ hw
  have X0 : Stand p l e room_1 (s.setVm s.vm) m args below meth c T0 locs 0 0 := X0
  have hS : s.Since s.vm 0 := (State.WarmedH.refl s).since 0
  have hEL := own_EW hw
  have HC0 := CHr.refl hCH
  refine go_of (B := (T0.setTop (mkF m 9 #[.val (.int ln), .val (.int xa), .val (.int xb), .val (.int xc), .val (.int xd), .val (.int (2 : Int32)), .unset, .unset, .unset, .unset, .unset, .unset, .unset] [(.int xa)]))) (fun _ kk => XS.iloadN X0.here hx rfl (hb hby at_8) rfl kk) ?_
  obtain ⟨_, _, ⟨T29, L29, k29, n29⟩, -, X29, ⟨Lc29, hQ29, l29, y29, z29⟩, st29⟩ := Jvm.LawKit.callS X0 hx (y := MN1) hown (mvT hZ (wd 1 rfl)) (mvT hZ (wd 2 rfl)) (mvT hZ (wd 3 rfl)) (mvT hZ (wd 4 rfl)) (by decide) (backOf (W := 0) (gch l Z a0 hw [] xa h0 n0 (by omega)) hZ (wd 4 rfl) (wd 3 rfl) (by decide) (by decide)) (g := (mkF m 9 #[.val (.int ln), .val (.int xa), .val (.int xb), .val (.int xc), .val (.int xd), .val (.int (2 : Int32)), .unset, .unset, .unset, .unset, .unset, .unset, .unset] [(.int xa)])) rfl (by rw [hml]; rfl) (argsL := [(.int xa)]) (rest := []) (lenOf pd__I_C rfl) rfl (Nat.le_of_eq rfl) (hb hby at_9) (fun _ _ => ⟨rfl, e0, (by decide : 0 + 0 ≤ _), (by decide : 0 + 0 ≤ _)⟩)
  dsimp only [Pt.U, Pt.locs, Pt.cells, Pt.slots] at X29 l29 y29 z29 st29 hQ29
  subst l29 y29 z29
  obtain ⟨rfl, N29q, e29⟩ := hQ29
  have N29 := Fr.app N0 N29q
  refine go_of (B := (T29.setTop (mkF m 12 #[.val (.int ln), .val (.int xa), .val (.int xb), .val (.int xc), .val (.int xd), .val (.int (2 : Int32)), .unset, .unset, .unset, .unset, .unset, .unset, .unset] [(.int (own_gch xa))]))) (st29) ?_
  refine go_of (B := (T29.setTop (mkF m 15 #[.val (.int ln), .val (.int xa), .val (.int xb), .val (.int xc), .val (.int xd), .val (.int (2 : Int32)), .val (.int (own_gch xa)), .unset, .unset, .unset, .unset, .unset, .unset] [(.int xb)]))) (fun _ kk => XS.istore X29.here hx rfl (hb hby at_12) rfl rfl (XS.iloadN X29.here hx rfl (hb hby at_14) rfl kk)) ?_
  obtain ⟨_, _, ⟨T30, L30, k30, n30⟩, -, X30, ⟨Lc30, hQ30, l30, y30, z30⟩, st30⟩ := Jvm.LawKit.callS X29 hx (y := MN1) hown (mvT hZ (wd 1 rfl)) (mvT hZ (wd 2 rfl)) (mvT hZ (wd 3 rfl)) (mvT hZ (wd 4 rfl)) (by decide) (backOf (W := 0) (gch l Z a0 hw [] xb h0 n0 (by omega)) hZ (wd 4 rfl) (wd 3 rfl) (by decide) (by decide)) (g := (mkF m 15 #[.val (.int ln), .val (.int xa), .val (.int xb), .val (.int xc), .val (.int xd), .val (.int (2 : Int32)), .val (.int (own_gch xa)), .unset, .unset, .unset, .unset, .unset, .unset] [(.int xb)])) rfl (by rw [hml]; rfl) (argsL := [(.int xb)]) (rest := []) (lenOf pd__I_C rfl) rfl (Nat.le_of_eq rfl) (hb hby at_15) (fun _ _ => ⟨rfl, e29, (by decide : 0 + 0 ≤ _), (by decide : 0 + 0 ≤ _)⟩)
  dsimp only [Pt.U, Pt.locs, Pt.cells, Pt.slots] at X30 l30 y30 z30 st30 hQ30
  subst l30 y30 z30
  obtain ⟨rfl, N30q, e30⟩ := hQ30
  have N30 := Fr.app N29 N30q
  refine go_of (B := (T30.setTop (mkF m 18 #[.val (.int ln), .val (.int xa), .val (.int xb), .val (.int xc), .val (.int xd), .val (.int (2 : Int32)), .val (.int (own_gch xa)), .unset, .unset, .unset, .unset, .unset, .unset] [(.int (own_gch xb))]))) (st30) ?_
  refine go_of (B := (T30.setTop (mkF m 21 #[.val (.int ln), .val (.int xa), .val (.int xb), .val (.int xc), .val (.int xd), .val (.int (2 : Int32)), .val (.int (own_gch xa)), .val (.int (own_gch xb)), .unset, .unset, .unset, .unset, .unset] [(.int xc)]))) (fun _ kk => XS.istore X30.here hx rfl (hb hby at_18) rfl rfl (XS.iloadN X30.here hx rfl (hb hby at_20) rfl kk)) ?_
  obtain ⟨_, _, ⟨T31, L31, k31, n31⟩, -, X31, ⟨Lc31, hQ31, l31, y31, z31⟩, st31⟩ := Jvm.LawKit.callS X30 hx (y := MN1) hown (mvT hZ (wd 1 rfl)) (mvT hZ (wd 2 rfl)) (mvT hZ (wd 3 rfl)) (mvT hZ (wd 4 rfl)) (by decide) (backOf (W := 0) (gch l Z a0 hw [] xc h0 n0 (by omega)) hZ (wd 4 rfl) (wd 3 rfl) (by decide) (by decide)) (g := (mkF m 21 #[.val (.int ln), .val (.int xa), .val (.int xb), .val (.int xc), .val (.int xd), .val (.int (2 : Int32)), .val (.int (own_gch xa)), .val (.int (own_gch xb)), .unset, .unset, .unset, .unset, .unset] [(.int xc)])) rfl (by rw [hml]; rfl) (argsL := [(.int xc)]) (rest := []) (lenOf pd__I_C rfl) rfl (Nat.le_of_eq rfl) (hb hby at_21) (fun _ _ => ⟨rfl, e30, (by decide : 0 + 0 ≤ _), (by decide : 0 + 0 ≤ _)⟩)
  dsimp only [Pt.U, Pt.locs, Pt.cells, Pt.slots] at X31 l31 y31 z31 st31 hQ31
  subst l31 y31 z31
  obtain ⟨rfl, N31q, e31⟩ := hQ31
  have N31 := Fr.app N30 N31q
  refine go_of (B := (T31.setTop (mkF m 24 #[.val (.int ln), .val (.int xa), .val (.int xb), .val (.int xc), .val (.int xd), .val (.int (2 : Int32)), .val (.int (own_gch xa)), .val (.int (own_gch xb)), .unset, .unset, .unset, .unset, .unset] [(.int (own_gch xc))]))) (st31) ?_
  refine go_of (B := (T31.setTop (mkF m 28 #[.val (.int ln), .val (.int xa), .val (.int xb), .val (.int xc), .val (.int xd), .val (.int (2 : Int32)), .val (.int (own_gch xa)), .val (.int (own_gch xb)), .val (.int (own_gch xc)), .unset, .unset, .unset, .unset] [(.int xd)]))) (fun _ kk => XS.istore X31.here hx rfl (hb hby at_24) rfl rfl (XS.iload X31.here hx rfl (hb hby at_26) rfl kk)) ?_
  obtain ⟨_, _, ⟨T32, L32, k32, n32⟩, -, X32, ⟨Lc32, hQ32, l32, y32, z32⟩, st32⟩ := Jvm.LawKit.callS X31 hx (y := MN1) hown (mvT hZ (wd 1 rfl)) (mvT hZ (wd 2 rfl)) (mvT hZ (wd 3 rfl)) (mvT hZ (wd 4 rfl)) (by decide) (backOf (W := 0) (gch l Z a0 hw [] xd h0 n0 (by omega)) hZ (wd 4 rfl) (wd 3 rfl) (by decide) (by decide)) (g := (mkF m 28 #[.val (.int ln), .val (.int xa), .val (.int xb), .val (.int xc), .val (.int xd), .val (.int (2 : Int32)), .val (.int (own_gch xa)), .val (.int (own_gch xb)), .val (.int (own_gch xc)), .unset, .unset, .unset, .unset] [(.int xd)])) rfl (by rw [hml]; rfl) (argsL := [(.int xd)]) (rest := []) (lenOf pd__I_C rfl) rfl (Nat.le_of_eq rfl) (hb hby at_28) (fun _ _ => ⟨rfl, e31, (by decide : 0 + 0 ≤ _), (by decide : 0 + 0 ≤ _)⟩)
  dsimp only [Pt.U, Pt.locs, Pt.cells, Pt.slots] at X32 l32 y32 z32 st32 hQ32
  subst l32 y32 z32
  obtain ⟨rfl, N32q, e32⟩ := hQ32
  have N32 := Fr.app N31 N32q
  refine go_of (B := (T32.setTop (mkF m 31 #[.val (.int ln), .val (.int xa), .val (.int xb), .val (.int xc), .val (.int xd), .val (.int (2 : Int32)), .val (.int (own_gch xa)), .val (.int (own_gch xb)), .val (.int (own_gch xc)), .unset, .unset, .unset, .unset] [(.int (own_gch xd))]))) (st32) ?_
  refine go_of (B := (T32.setTop (mkF m 65 #[.val (.int ln), .val (.int xa), .val (.int xb), .val (.int xc), .val (.int xd), .val (.int (2 : Int32)), .val (.int (own_gch xa)), .val (.int (own_gch xb)), .val (.int (own_gch xc)), .val (.int (own_gch xd)), .unset, .unset, .unset] []))) (fun _ kk => XS.istore X32.here hx rfl (hb hby at_31) rfl rfl (XS.iload X32.here hx rfl (hb hby at_33) rfl (XS.ifYes X32.here hx rfl (pc0 := 35) (pc' := 46) rfl (hb hby at_35) rfl ((if0 _ _).trans (feq (by decide : ¬ ((2 : Int32) = (0 : Int32)))).2) (by decide) (by decide) (XS.iload X32.here hx rfl (hb hby at_46) rfl (XS.iconst X32.here hx rfl (hb hby at_48) (XS.icmpYes X32.here hx rfl (pc0 := 49) (pc' := 65) rfl (hb hby at_49) rfl (feq (by decide : ¬ ((2 : Int32) = (1 : Int32)))).2 (by decide) (by decide) kk)))))) ?_
  refine go_of (B := (T32.setTop (mkF m 72 #[.val (.int ln), .val (.int xa), .val (.int xb), .val (.int xc), .val (.int xd), .val (.int (2 : Int32)), .val (.int (own_gch xa)), .val (.int (own_gch xb)), .val (.int (own_gch xc)), .val (.int (own_gch xd)), .unset, .unset, .unset] [(.int (2 : Int32))]))) (fun _ kk => XS.iload X32.here hx rfl (hb hby at_65) rfl (XS.iconst X32.here hx rfl (hb hby at_67) (XS.icmpNo X32.here hx rfl (hb hby at_68) rfl (teq (by decide : (2 : Int32) = (2 : Int32))).2 (XS.iconst X32.here hx rfl (hb hby at_71) kk)))) ?_
  obtain ⟨T33, h33, k33, X33, e33, E33, A33, st33⟩ := newP X32 hx hZ (wd 6 rfl) e32 (g := (mkF m 72 #[.val (.int ln), .val (.int xa), .val (.int xb), .val (.int xc), .val (.int xd), .val (.int (2 : Int32)), .val (.int (own_gch xa)), .val (.int (own_gch xb)), .val (.int (own_gch xc)), .val (.int (own_gch xd)), .unset, .unset, .unset] [(.int (2 : Int32))])) rfl (hb hby at_72) rfl (by decide) (cap := 2) (by decide) (by decide) (by decide) (by decide)
  obtain ⟨b33, g33⟩ : ∃ z, z = h0.size := ⟨_, rfl⟩
  rw [← g33] at A33 st33
  have hi33 := own_nlt A33.lt
  have sz33 := E33.1
  have HC33 := HC0.trans (CHr.ext E33 HC0.1)
  have V33 : Arv Z h33 b33 k33 .char (2 : Int32) [(.int (0 : Int32)), (.int (0 : Int32))] (.int (0 : Int32)) := (Arv.new A33 (by decide)).pad (pad_rep [] (.int (0 : Int32)) 2)
  refine go_of (B := (T33.setTop (mkF m 74 #[.val (.int ln), .val (.int xa), .val (.int xb), .val (.int xc), .val (.int xd), .val (.int (2 : Int32)), .val (.int (own_gch xa)), .val (.int (own_gch xb)), .val (.int (own_gch xc)), .val (.int (own_gch xd)), .unset, .unset, .unset] [(.ref b33)]))) (st33) ?_
  refine go_of (B := (T33.setTop (mkF m 78 #[.val (.int ln), .val (.int xa), .val (.int xb), .val (.int xc), .val (.int xd), .val (.int (2 : Int32)), .val (.int (own_gch xa)), .val (.int (own_gch xb)), .val (.int (own_gch xc)), .val (.int (own_gch xd)), .unset, .unset, .unset] [(.int (own_gch xa)), (.int (0 : Int32)), (.ref b33), (.ref b33)]))) (fun _ kk => XS.dup X33.here hx rfl (hb hby at_74) rfl rfl (XS.iconst X33.here hx rfl (hb hby at_75) (XS.iload X33.here hx rfl (hb hby at_76) rfl kk))) ?_
  obtain ⟨cl34, Ar34, q34, Sz34, Nn34, Hh34, G34⟩ := id (V33)
  obtain ⟨T35, h35, X35, e35, W35, st35⟩ := stC X33 hx hZ e33 Ar34 (j := (0 : Int32)) (inb_of Sz34 ⟨by decide, by decide⟩) (g := (mkF m 78 #[.val (.int ln), .val (.int xa), .val (.int xb), .val (.int xc), .val (.int xd), .val (.int (2 : Int32)), .val (.int (own_gch xa)), .val (.int (own_gch xb)), .val (.int (own_gch xc)), .val (.int (own_gch xd)), .unset, .unset, .unset] [(.int (own_gch xa)), (.int (0 : Int32)), (.ref b33), (.ref b33)])) rfl rfl (hb hby at_78)
  have sz35 := W35.size
  have N35 := Fr.snoc X35 N32 ((by first | omega | exact own_ne (by omega) | exact own_le (by omega)) : n0 ≤ b33)
  have V35 : Arv Z h35 b33 k33 .char (2 : Int32) [(.int (nar .char (own_gch xa))), (.int (0 : Int32))] (.int (0 : Int32)) := Arv.set Ar34 q34 Sz34 Nn34 Hh34 G34 (fits_nar_char _) W35 0 rfl (Nat.le_of_ble_eq_true rfl)
  rw [own_narc16 (own_gchr xa)] at V35
  have SF35 := (own_safe_arv hZ.alike V33 (by decide) : (Safe Z own_EL _ h33 b33))
  have HC35 := HC33.trans (CHr.wr W35 SF35 HC33.1)
  refine go_of (B := (T35.setTop (mkF m 79 #[.val (.int ln), .val (.int xa), .val (.int xb), .val (.int xc), .val (.int xd), .val (.int (2 : Int32)), .val (.int (own_gch xa)), .val (.int (own_gch xb)), .val (.int (own_gch xc)), .val (.int (own_gch xd)), .unset, .unset, .unset] [(.ref b33)]))) (st35) ?_
  refine go_of (B := (T35.setTop (mkF m 83 #[.val (.int ln), .val (.int xa), .val (.int xb), .val (.int xc), .val (.int xd), .val (.int (2 : Int32)), .val (.int (own_gch xa)), .val (.int (own_gch xb)), .val (.int (own_gch xc)), .val (.int (own_gch xd)), .unset, .unset, .unset] [(.int (own_gch xb)), (.int (1 : Int32)), (.ref b33), (.ref b33)]))) (fun _ kk => XS.dup X35.here hx rfl (hb hby at_79) rfl rfl (XS.iconst X35.here hx rfl (hb hby at_80) (XS.iload X35.here hx rfl (hb hby at_81) rfl kk))) ?_
  obtain ⟨cl36, Ar36, q36, Sz36, Nn36, Hh36, G36⟩ := id (V35)
  obtain ⟨T37, h37, X37, e37, W37, st37⟩ := stC X35 hx hZ e35 Ar36 (j := (1 : Int32)) (inb_of Sz36 ⟨by decide, by decide⟩) (g := (mkF m 83 #[.val (.int ln), .val (.int xa), .val (.int xb), .val (.int xc), .val (.int xd), .val (.int (2 : Int32)), .val (.int (own_gch xa)), .val (.int (own_gch xb)), .val (.int (own_gch xc)), .val (.int (own_gch xd)), .unset, .unset, .unset] [(.int (own_gch xb)), (.int (1 : Int32)), (.ref b33), (.ref b33)])) rfl rfl (hb hby at_83)
  have sz37 := W37.size
  have N37 := Fr.snoc X37 N35 ((by first | omega | exact own_ne (by omega) | exact own_le (by omega)) : n0 ≤ b33)
  have V37 : Arv Z h37 b33 k33 .char (2 : Int32) [(.int (own_gch xa)), (.int (nar .char (own_gch xb)))] (.int (0 : Int32)) := Arv.set Ar36 q36 Sz36 Nn36 Hh36 G36 (fits_nar_char _) W37 1 rfl (Nat.le_of_ble_eq_true rfl)
  rw [own_narc16 (own_gchr xb)] at V37
  have SF37 := (own_safe_arv hZ.alike V35 (by decide) : (Safe Z own_EL _ h35 b33))
  have HC37 := HC35.trans (CHr.wr W37 SF37 HC35.1)
  refine go_of (B := (T37.setTop (mkF m 84 #[.val (.int ln), .val (.int xa), .val (.int xb), .val (.int xc), .val (.int xd), .val (.int (2 : Int32)), .val (.int (own_gch xa)), .val (.int (own_gch xb)), .val (.int (own_gch xc)), .val (.int (own_gch xd)), .unset, .unset, .unset] [(.ref b33)]))) (st37) ?_
  refine go_of (B := (T37.setTop (mkF m 143 #[.val (.int ln), .val (.int xa), .val (.int xb), .val (.int xc), .val (.int xd), .val (.int (2 : Int32)), .val (.int (own_gch xa)), .val (.int (own_gch xb)), .val (.int (own_gch xc)), .val (.int (own_gch xd)), .val (.ref b33), .unset, .unset] []))) (fun _ kk => XS.astore X37.here hx rfl (hb hby at_84) rfl rfl rfl (XS.goto X37.here hx rfl (pc0 := 86) (pc' := 143) rfl (hb hby at_86) (by decide) (by decide) kk)) ?_
  have HJ38 : ∀ (Tj38 : State) (Lj38 : List Loc), Stand p l e room_1 (s.setVm s.vm) m args below meth c Tj38 Lj38 1 2 → Tj38.heap = h37 → Fr n0 Lj38 → ∀ (xh xe : Int32), xe = own_lit [(own_gch xa), (own_gch xb)] → Go p e below (Tj38.setTop (mkF m 217 #[.val (.int ln), .val (.int xa), .val (.int xb), .val (.int xc), .val (.int xd), .val (.int (2 : Int32)), .val (.int (own_gch xa)), .val (.int (own_gch xb)), .val (.int (own_gch xc)), .val (.int (own_gch xd)), .val (.ref b33), .val (.int xh), .val (.int xe)] [])) (fun oo' U2' => ∃ vv' LL', oo' = .returned vv' ∧ (Q_rm0 Z ln xa xb xc xd gC gF h0 n0) vv' U2'.heap LL' ∧ CHr Z own_EL s.vm s.heap U2'.vm U2'.heap ∧ ReturnedEndW s oo' U2' LL' room_1.cells room_1.slots) := by
    intro Tj38 Lj38 Xj38 ej38 Nj38 xh xe hjHJ38
    obtain ⟨T39, h39, X39, e39, E39, A39, D39, -, st39⟩ := newO Xj38 hx hZ hown (wd 7 rfl) (wd 8 rfl) (wd 9 rfl) ej38 (g := (mkF m 217 #[.val (.int ln), .val (.int xa), .val (.int xb), .val (.int xc), .val (.int xd), .val (.int (2 : Int32)), .val (.int (own_gch xa)), .val (.int (own_gch xb)), .val (.int (own_gch xc)), .val (.int (own_gch xd)), .val (.ref b33), .val (.int xh), .val (.int xe)] [])) rfl (hb hby at_217) (by decide) (by decide)
    obtain ⟨b39, g39⟩ : ∃ z, z = h37.size := ⟨_, rfl⟩
    rw [← g39] at A39 D39 st39
    have hi39 := own_nlt A39.lt
    have sz39 := E39.1
    have HC39 := HC37.trans (CHr.ext E39 HC37.1)
    have F39_value : Fld Z h39 b39 "java/lang/String" "value" "[B" .null := D39 (Or.inr (wd 22 rfl)) (ty := (.array .byte)) (by decide)
    have F39_coder : Fld Z h39 b39 "java/lang/String" "coder" "B" (.int (0 : Int32)) := D39 (Or.inr (wd 23 rfl)) (ty := .byte) (by decide)
    refine go_of (B := (T39.setTop (mkF m 220 #[.val (.int ln), .val (.int xa), .val (.int xb), .val (.int xc), .val (.int xd), .val (.int (2 : Int32)), .val (.int (own_gch xa)), .val (.int (own_gch xb)), .val (.int (own_gch xc)), .val (.int (own_gch xd)), .val (.ref b33), .val (.int xh), .val (.int xe)] [(.ref b39)]))) (st39) ?_
    refine go_of (B := (T39.setTop (mkF m 223 #[.val (.int ln), .val (.int xa), .val (.int xb), .val (.int xc), .val (.int xd), .val (.int (2 : Int32)), .val (.int (own_gch xa)), .val (.int (own_gch xb)), .val (.int (own_gch xc)), .val (.int (own_gch xd)), .val (.ref b33), .val (.int xh), .val (.int xe)] [(.ref b33), (.ref b39), (.ref b39)]))) (fun _ kk => XS.dup X39.here hx rfl (hb hby at_220) rfl rfl (XS.aload X39.here hx rfl (hb hby at_221) rfl rfl kk)) ?_
    have sf_40 := (own_safe_null hZ.alike A39 F39_value : (Safe Z own_EL _ h39 b39))
    have cf_41 := ((((O.ext E33).wr W35 (by first | omega | exact own_ne (by omega) | exact own_le (by omega))).wr W37 (by first | omega | exact own_ne (by omega) | exact own_le (by omega))).ext E39)
    have cf_42 := (V37.ext E39)
    obtain ⟨_, _, ⟨T43, L43, k43, n43⟩, -, X43, ⟨Lc43, hQ43, l43, y43, z43⟩, st43⟩ := X39.specialBack hx (y := MN5) rfl hown (mvT hZ (wd 10 rfl)) (mvT hZ (wd 11 rfl)) (mvT hZ (wd 12 rfl)) (by decide) (backOf (W := 1) (u_i1_2 l Z a0 hw [] b39 b33 (own_gch xa) (own_gch xb) k33 gC _ _ h39 n0 (by omega) cf_41 SC hgC SU A39 F39_value F39_coder (by first | omega | exact own_ne (by omega) | exact own_le (by omega)) cf_42 (own_gchr xa) (own_gchr xb)) hZ (wd 12 rfl) (wd 9 rfl) (by decide) (by decide)) (g := (mkF m 223 #[.val (.int ln), .val (.int xa), .val (.int xb), .val (.int xc), .val (.int xd), .val (.int (2 : Int32)), .val (.int (own_gch xa)), .val (.int (own_gch xb)), .val (.int (own_gch xc)), .val (.int (own_gch xd)), .val (.ref b33), .val (.int xh), .val (.int xe)] [(.ref b33), (.ref b39), (.ref b39)])) rfl (by rw [hml]; rfl) (Steps.refl _) (a := b39) (argsL := [(.ref b33)]) (rest := [(.ref b39)]) (lenOf pd___C_V rfl) rfl (Nat.le_of_eq rfl) (hb hby at_223) (fun _ _ => ⟨rfl, e39, (by decide : 2 + 2 ≤ _), (by decide : 6 + 6 ≤ _)⟩)
    dsimp only [Pt.U, Pt.locs, Pt.cells, Pt.slots] at X43 l43 y43 z43 st43 hQ43
    subst l43 y43 z43
    obtain ⟨rfl, N43q, K43, S43⟩ := hQ43
    have N43 := Fr.app Nj38 N43q
    have sz43 := K43.1
    have SK43 : ∀ x ∈ [b39], Safe Z own_EL _ h39 x := (allS sf_40 all0)
    have HC43 := HC39.trans (CHr.keep K43 SK43 HC39.1)
    refine go_tr (B := (T43.setTop (mkF m 226 #[.val (.int ln), .val (.int xa), .val (.int xb), .val (.int xc), .val (.int xd), .val (.int (2 : Int32)), .val (.int (own_gch xa)), .val (.int (own_gch xb)), .val (.int (own_gch xc)), .val (.int (own_gch xd)), .val (.ref b33), .val (.int xh), .val (.int xe)] [(.ref b39)]))) (st43) ?_
    have cf_44 := (cf_41.keep K43 (allS (by first | omega | exact own_ne (by omega) | exact own_le (by omega)) all0))
    obtain ⟨_, _, ⟨T45, L45, k45, n45⟩, -, X45, ⟨Lc45, hQ45, l45, y45, z45⟩, st45⟩ := Jvm.LawKit.callS X43 hx (y := MN0) hown (mvT hZ (wd 28 rfl)) (mvT hZ (wd 29 rfl)) (mvT hZ (wd 30 rfl)) (mvT hZ (wd 31 rfl)) (by decide) (backOf (W := 0) (isl_2 l Z a0 hw [] b39 (own_gch xa) (own_gch xb) gC gF T43.heap n0 (by omega) cf_44 SC hgC S43 SU SF rgF) hZ (wd 31 rfl) (wd 30 rfl) (by decide) (by decide)) (g := (mkF m 226 #[.val (.int ln), .val (.int xa), .val (.int xb), .val (.int xc), .val (.int xd), .val (.int (2 : Int32)), .val (.int (own_gch xa)), .val (.int (own_gch xb)), .val (.int (own_gch xc)), .val (.int (own_gch xd)), .val (.ref b33), .val (.int xh), .val (.int xe)] [(.ref b39)])) rfl (by rw [hml]; rfl) (argsL := [(.ref b39)]) (rest := []) (lenOf pd__Ljava_lang_String__Z rfl) rfl (Nat.le_of_eq rfl) (hb hby at_226) (fun _ _ => ⟨rfl, rfl, (by decide : 4 + 0 ≤ _), (by decide : 12 + 0 ≤ _)⟩)
    dsimp only [Pt.U, Pt.locs, Pt.cells, Pt.slots] at X45 l45 y45 z45 st45 hQ45
    subst l45 y45 z45
    obtain ⟨rfl, N45q, e45⟩ := hQ45
    have N45 := Fr.app N43 N45q
    refine go_of (B := (T45.setTop (mkF m 229 #[.val (.int ln), .val (.int xa), .val (.int xb), .val (.int xc), .val (.int xd), .val (.int (2 : Int32)), .val (.int (own_gch xa)), .val (.int (own_gch xb)), .val (.int (own_gch xc)), .val (.int (own_gch xd)), .val (.ref b33), .val (.int xh), .val (.int xe)] [(.int (own_lit [(own_gch xa), (own_gch xb)]))]))) (st45) ?_
    refine go_of (B := (T45.setTop (mkF m 239 #[.val (.int ln), .val (.int xa), .val (.int xb), .val (.int xc), .val (.int xd), .val (.int (2 : Int32)), .val (.int (own_gch xa)), .val (.int (own_gch xb)), .val (.int (own_gch xc)), .val (.int (own_gch xd)), .val (.ref b33), .val (.int xh), .val (.int xe)] [(.int (1 : Int32))]))) (fun _ kk => XS.iload X45.here hx rfl (hb hby at_229) rfl (XS.icmpNo X45.here hx rfl (hb hby at_231) rfl (teq hjHJ38.symm).2 (XS.iconst X45.here hx rfl (hb hby at_234) (XS.goto X45.here hx rfl (pc0 := 235) (pc' := 239) rfl (hb hby at_235) (by decide) (by decide) kk)))) ?_
    refine go_endH X45 hZ hEL HC43 hh0 e45 hS (by rw [e45]; omega) (v := some (.int (nar .boolean (1 : Int32)))) (fun h => by rw [hret] at h; cases h) hlk (by decide) (by decide) (Q := (Q_rm0 Z ln xa xb xc xd gC gF h0 n0)) ?_ (fun fs hr => retN X45 hx (t := .boolean) hret (by simp) (hb hby at_239) hr)
    unfold Q_rm0
    try rw [e45]
    exact ⟨rfl, N45⟩
  refine go_of (B := (T37.setTop (mkF m 150 #[.val (.int ln), .val (.int xa), .val (.int xb), .val (.int xc), .val (.int xd), .val (.int (2 : Int32)), .val (.int (own_gch xa)), .val (.int (own_gch xb)), .val (.int (own_gch xc)), .val (.int (own_gch xd)), .val (.ref b33), .unset, .unset] [(.int (own_gch xa))]))) (fun _ kk => XS.iload X37.here hx rfl (hb hby at_143) rfl (XS.ifNo X37.here hx rfl (hb hby at_145) rfl ((if0 _ _).trans (tlt (by decide : (0 : Int32) < (2 : Int32))).2.2.2) (XS.iload X37.here hx rfl (hb hby at_148) rfl kk))) ?_
  obtain ⟨_, _, ⟨T46, L46, k46, n46⟩, -, X46, ⟨Lc46, hQ46, l46, y46, z46⟩, st46⟩ := Jvm.LawKit.callS X37 hx (y := MN2) hown (mvT hZ (wd 72 rfl)) (mvT hZ (wd 73 rfl)) (mvT hZ (wd 3 rfl)) (mvT hZ (wd 74 rfl)) (by decide) (backOf (W := 0) (wld l Z a0 hw [] (own_gch xa) h37 n0 (by omega)) hZ (wd 74 rfl) (wd 3 rfl) (by decide) (by decide)) (g := (mkF m 150 #[.val (.int ln), .val (.int xa), .val (.int xb), .val (.int xc), .val (.int xd), .val (.int (2 : Int32)), .val (.int (own_gch xa)), .val (.int (own_gch xb)), .val (.int (own_gch xc)), .val (.int (own_gch xd)), .val (.ref b33), .unset, .unset] [(.int (own_gch xa))])) rfl (by rw [hml]; rfl) (argsL := [(.int (own_gch xa))]) (rest := []) (lenOf pd__C_Z rfl) rfl (Nat.le_of_eq rfl) (hb hby at_150) (fun _ _ => ⟨rfl, e37, (by decide : 1 + 0 ≤ _), (by decide : 2 + 0 ≤ _)⟩)
  dsimp only [Pt.U, Pt.locs, Pt.cells, Pt.slots] at X46 l46 y46 z46 st46 hQ46
  subst l46 y46 z46
  obtain ⟨rfl, N46q, e46⟩ := hQ46
  have N46 := Fr.app N37 N46q
  refine go_of (B := (T46.setTop (mkF m 153 #[.val (.int ln), .val (.int xa), .val (.int xb), .val (.int xc), .val (.int xd), .val (.int (2 : Int32)), .val (.int (own_gch xa)), .val (.int (own_gch xb)), .val (.int (own_gch xc)), .val (.int (own_gch xd)), .val (.ref b33), .unset, .unset] [(.int (own_wl (own_gch xa)))]))) (st46) ?_
  by_cases hcc47 : (own_wl (own_gch xa)) = (0 : Int32)
  · refine go_of (B := (T46.setTop (mkF m 164 #[.val (.int ln), .val (.int xa), .val (.int xb), .val (.int xc), .val (.int xd), .val (.int (2 : Int32)), .val (.int (own_gch xa)), .val (.int (own_gch xb)), .val (.int (own_gch xc)), .val (.int (own_gch xd)), .val (.ref b33), .unset, .unset] [(.int (own_gch xb))]))) (fun _ kk => XS.ifNo X46.here hx rfl (hb hby at_153) rfl ((if0 _ _).trans (teq hcc47).2) (XS.iload X46.here hx rfl (hb hby at_156) rfl (XS.iconst X46.here hx rfl (hb hby at_158) (XS.icmpNo X46.here hx rfl (hb hby at_159) rfl (tlt (by decide : (1 : Int32) < (2 : Int32))).2.2.2 (XS.iload X46.here hx rfl (hb hby at_162) rfl kk))))) ?_
    obtain ⟨_, _, ⟨T48, L48, k48, n48⟩, -, X48, ⟨Lc48, hQ48, l48, y48, z48⟩, st48⟩ := Jvm.LawKit.callS X46 hx (y := MN2) hown (mvT hZ (wd 72 rfl)) (mvT hZ (wd 73 rfl)) (mvT hZ (wd 3 rfl)) (mvT hZ (wd 74 rfl)) (by decide) (backOf (W := 0) (wld l Z a0 hw [] (own_gch xb) h37 n0 (by omega)) hZ (wd 74 rfl) (wd 3 rfl) (by decide) (by decide)) (g := (mkF m 164 #[.val (.int ln), .val (.int xa), .val (.int xb), .val (.int xc), .val (.int xd), .val (.int (2 : Int32)), .val (.int (own_gch xa)), .val (.int (own_gch xb)), .val (.int (own_gch xc)), .val (.int (own_gch xd)), .val (.ref b33), .unset, .unset] [(.int (own_gch xb))])) rfl (by rw [hml]; rfl) (argsL := [(.int (own_gch xb))]) (rest := []) (lenOf pd__C_Z rfl) rfl (Nat.le_of_eq rfl) (hb hby at_164) (fun _ _ => ⟨rfl, e46, (by decide : 1 + 0 ≤ _), (by decide : 2 + 0 ≤ _)⟩)
    dsimp only [Pt.U, Pt.locs, Pt.cells, Pt.slots] at X48 l48 y48 z48 st48 hQ48
    subst l48 y48 z48
    obtain ⟨rfl, N48q, e48⟩ := hQ48
    have N48 := Fr.app N46 N48q
    refine go_of (B := (T48.setTop (mkF m 167 #[.val (.int ln), .val (.int xa), .val (.int xb), .val (.int xc), .val (.int xd), .val (.int (2 : Int32)), .val (.int (own_gch xa)), .val (.int (own_gch xb)), .val (.int (own_gch xc)), .val (.int (own_gch xd)), .val (.ref b33), .unset, .unset] [(.int (own_wl (own_gch xb)))]))) (st48) ?_
    by_cases hcc49 : (own_wl (own_gch xb)) = (0 : Int32)
    · refine go_of (B := (T48.setTop (mkF m 187 #[.val (.int ln), .val (.int xa), .val (.int xb), .val (.int xc), .val (.int xd), .val (.int (2 : Int32)), .val (.int (own_gch xa)), .val (.int (own_gch xb)), .val (.int (own_gch xc)), .val (.int (own_gch xd)), .val (.ref b33), .unset, .unset] [(.int (3 : Int32)), (.int (2 : Int32))]))) (fun _ kk => XS.ifNo X48.here hx rfl (hb hby at_167) rfl ((if0 _ _).trans (teq hcc49).2) (XS.iload X48.here hx rfl (hb hby at_170) rfl (XS.iconst X48.here hx rfl (hb hby at_172) (XS.icmpYes X48.here hx rfl (pc0 := 173) (pc' := 184) rfl (hb hby at_173) rfl (flt (by decide : ¬ ((2 : Int32) < (2 : Int32)))).2.2.2 (by decide) (by decide) (XS.iload X48.here hx rfl (hb hby at_184) rfl (XS.iconst X48.here hx rfl (hb hby at_186) kk)))))) ?_
      refine go_of (B := (T48.setTop (mkF m 211 #[.val (.int ln), .val (.int xa), .val (.int xb), .val (.int xc), .val (.int xd), .val (.int (2 : Int32)), .val (.int (own_gch xa)), .val (.int (own_gch xb)), .val (.int (own_gch xc)), .val (.int (own_gch xd)), .val (.ref b33), .val (.int (0 : Int32)), .unset] [(.int (1 : Int32))]))) (fun _ kk => XS.icmpYes X48.here hx rfl (pc0 := 187) (pc' := 202) rfl (hb hby at_187) rfl (flt (by decide : ¬ ((3 : Int32) < (2 : Int32)))).2.2.2 (by decide) (by decide) (XS.iconst X48.here hx rfl (hb hby at_202) (XS.istore X48.here hx rfl (hb hby at_203) rfl rfl (XS.iload X48.here hx rfl (hb hby at_205) rfl (XS.ifNo X48.here hx rfl (hb hby at_207) rfl ((if0 _ _).trans (teq (by decide : (0 : Int32) = (0 : Int32))).2) (XS.iconst X48.here hx rfl (hb hby at_210) kk)))))) ?_
      refine go_of (B := (T48.setTop (mkF m 217 #[.val (.int ln), .val (.int xa), .val (.int xb), .val (.int xc), .val (.int xd), .val (.int (2 : Int32)), .val (.int (own_gch xa)), .val (.int (own_gch xb)), .val (.int (own_gch xc)), .val (.int (own_gch xd)), .val (.ref b33), .val (.int (0 : Int32)), .val (.int (1 : Int32))] []))) (fun _ kk => XS.goto X48.here hx rfl (pc0 := 211) (pc' := 215) rfl (hb hby at_211) (by decide) (by decide) (XS.istore X48.here hx rfl (hb hby at_215) rfl rfl kk)) ?_
      exact HJ38 _ _ X48 e48 N48 (0 : Int32) (1 : Int32) (by rw [own_litc hcc47, own_litc hcc49, own_litn])
    · refine go_of (B := (T48.setTop (mkF m 214 #[.val (.int ln), .val (.int xa), .val (.int xb), .val (.int xc), .val (.int xd), .val (.int (2 : Int32)), .val (.int (own_gch xa)), .val (.int (own_gch xb)), .val (.int (own_gch xc)), .val (.int (own_gch xd)), .val (.ref b33), .val (.int (1 : Int32)), .unset] []))) (fun _ kk => XS.ifYes X48.here hx rfl (pc0 := 167) (pc' := 198) rfl (hb hby at_167) rfl ((if0 _ _).trans (feq hcc49).2) (by decide) (by decide) (XS.iconst X48.here hx rfl (hb hby at_198) (XS.goto X48.here hx rfl (pc0 := 199) (pc' := 203) rfl (hb hby at_199) (by decide) (by decide) (XS.istore X48.here hx rfl (hb hby at_203) rfl rfl (XS.iload X48.here hx rfl (hb hby at_205) rfl (XS.ifYes X48.here hx rfl (pc0 := 207) (pc' := 214) rfl (hb hby at_207) rfl ((if0 _ _).trans (feq (by decide : ¬ ((1 : Int32) = (0 : Int32)))).2) (by decide) (by decide) kk)))))) ?_
      refine go_of (B := (T48.setTop (mkF m 217 #[.val (.int ln), .val (.int xa), .val (.int xb), .val (.int xc), .val (.int xd), .val (.int (2 : Int32)), .val (.int (own_gch xa)), .val (.int (own_gch xb)), .val (.int (own_gch xc)), .val (.int (own_gch xd)), .val (.ref b33), .val (.int (1 : Int32)), .val (.int (0 : Int32))] []))) (fun _ kk => XS.iconst X48.here hx rfl (hb hby at_214) (XS.istore X48.here hx rfl (hb hby at_215) rfl rfl kk)) ?_
      exact HJ38 _ _ X48 e48 N48 (1 : Int32) (0 : Int32) (by rw [own_litc hcc47, own_litw hcc49])
  · refine go_of (B := (T46.setTop (mkF m 214 #[.val (.int ln), .val (.int xa), .val (.int xb), .val (.int xc), .val (.int xd), .val (.int (2 : Int32)), .val (.int (own_gch xa)), .val (.int (own_gch xb)), .val (.int (own_gch xc)), .val (.int (own_gch xd)), .val (.ref b33), .val (.int (1 : Int32)), .unset] []))) (fun _ kk => XS.ifYes X46.here hx rfl (pc0 := 153) (pc' := 198) rfl (hb hby at_153) rfl ((if0 _ _).trans (feq hcc47).2) (by decide) (by decide) (XS.iconst X46.here hx rfl (hb hby at_198) (XS.goto X46.here hx rfl (pc0 := 199) (pc' := 203) rfl (hb hby at_199) (by decide) (by decide) (XS.istore X46.here hx rfl (hb hby at_203) rfl rfl (XS.iload X46.here hx rfl (hb hby at_205) rfl (XS.ifYes X46.here hx rfl (pc0 := 207) (pc' := 214) rfl (hb hby at_207) rfl ((if0 _ _).trans (feq (by decide : ¬ ((1 : Int32) = (0 : Int32)))).2) (by decide) (by decide) kk)))))) ?_
    refine go_of (B := (T46.setTop (mkF m 217 #[.val (.int ln), .val (.int xa), .val (.int xb), .val (.int xc), .val (.int xd), .val (.int (2 : Int32)), .val (.int (own_gch xa)), .val (.int (own_gch xb)), .val (.int (own_gch xc)), .val (.int (own_gch xd)), .val (.ref b33), .val (.int (1 : Int32)), .val (.int (0 : Int32))] []))) (fun _ kk => XS.iconst X46.here hx rfl (hb hby at_214) (XS.istore X46.here hx rfl (hb hby at_215) rfl rfl kk)) ?_
    exact HJ38 _ _ X46 e46 N46 (1 : Int32) (0 : Int32) (by rw [own_litw hcc47])
theorem lw3 {p : Program} {l : Launch} {e : Env} {s : State} {m : MethodId} {args : Array Value} {below : List Frame} {meth : Method} {c : Code} {Z : State} {a0 : Array Value} {h0 : Heap} {n0 : Nat} (ln : Int32) (xa : Int32) (xb : Int32) (xc : Int32) (xd : Int32) (gC : Int32) (gF : Value) {T0 : State} {locs : List Loc}
    (X0 : Stand p l e room_1 s m args below meth c T0 locs 0 0) (hx : p.tables.exec = Jvm.exec) (hZ : Z.Warmed39 s.vm) (hw : TW a0 Z) (hby : c.code = code) (hml : c.maxLocals = 13) (hown : s.vm.findClass "com/example/grantline/grantline/GlobIsLiteralPinLaw" = some m.cls) (hret : meth.sig.returnType = (some .boolean)) (hlk : meth.locks = false) (e0 : T0.heap = h0) (N0 : Fr n0 locs) (Z0 : n0 ≤ h0.size) (O : Old Z n0 h0) (SC : Sta Z Z.heap "java/lang/String" "COMPACT_STRINGS" "Z" (.int gC)) (hgC : ¬ gC = (0 : Int32)) (SU : US Z) (SF : Sta Z Z.heap "jdk/internal/util/Preconditions" "SIOOBE_FORMATTER" "Ljava/util/function/BiFunction;" gF) (rgF : gF.isRef = true) (hh0 : s.heap = h0) (hCH : CHv Z own_EL s.vm h0) :
    Go p e below (T0.setTop (mkF m 8 #[.val (.int ln), .val (.int xa), .val (.int xb), .val (.int xc), .val (.int xd), .val (.int (3 : Int32)), .unset, .unset, .unset, .unset, .unset, .unset, .unset] [])) (fun oo' U2' => ∃ vv' LL', oo' = .returned vv' ∧ (Q_rm0 Z ln xa xb xc xd gC gF h0 n0) vv' U2'.heap LL' ∧ CHr Z own_EL s.vm s.heap U2'.vm U2'.heap ∧ ReturnedEndW s oo' U2' LL' room_1.cells room_1.slots) := by
  have wd := @own_wd _ _ hw
  have X0 : Stand p l e room_1 (s.setVm s.vm) m args below meth c T0 locs 0 0 := X0
  have hS : s.Since s.vm 0 := (State.WarmedH.refl s).since 0
  have hEL := own_EW hw
  have HC0 := CHr.refl hCH
  refine go_of (B := (T0.setTop (mkF m 9 #[.val (.int ln), .val (.int xa), .val (.int xb), .val (.int xc), .val (.int xd), .val (.int (3 : Int32)), .unset, .unset, .unset, .unset, .unset, .unset, .unset] [(.int xa)]))) (fun _ kk => XS.iloadN X0.here hx rfl (hb hby at_8) rfl kk) ?_
  obtain ⟨_, _, ⟨T50, L50, k50, n50⟩, -, X50, ⟨Lc50, hQ50, l50, y50, z50⟩, st50⟩ := Jvm.LawKit.callS X0 hx (y := MN1) hown (mvT hZ (wd 1 rfl)) (mvT hZ (wd 2 rfl)) (mvT hZ (wd 3 rfl)) (mvT hZ (wd 4 rfl)) (by decide) (backOf (W := 0) (gch l Z a0 hw [] xa h0 n0 (by omega)) hZ (wd 4 rfl) (wd 3 rfl) (by decide) (by decide)) (g := (mkF m 9 #[.val (.int ln), .val (.int xa), .val (.int xb), .val (.int xc), .val (.int xd), .val (.int (3 : Int32)), .unset, .unset, .unset, .unset, .unset, .unset, .unset] [(.int xa)])) rfl (by rw [hml]; rfl) (argsL := [(.int xa)]) (rest := []) (lenOf pd__I_C rfl) rfl (Nat.le_of_eq rfl) (hb hby at_9) (fun _ _ => ⟨rfl, e0, (by decide : 0 + 0 ≤ _), (by decide : 0 + 0 ≤ _)⟩)
  dsimp only [Pt.U, Pt.locs, Pt.cells, Pt.slots] at X50 l50 y50 z50 st50 hQ50
  subst l50 y50 z50
  obtain ⟨rfl, N50q, e50⟩ := hQ50
  have N50 := Fr.app N0 N50q
  refine go_of (B := (T50.setTop (mkF m 12 #[.val (.int ln), .val (.int xa), .val (.int xb), .val (.int xc), .val (.int xd), .val (.int (3 : Int32)), .unset, .unset, .unset, .unset, .unset, .unset, .unset] [(.int (own_gch xa))]))) (st50) ?_
  refine go_of (B := (T50.setTop (mkF m 15 #[.val (.int ln), .val (.int xa), .val (.int xb), .val (.int xc), .val (.int xd), .val (.int (3 : Int32)), .val (.int (own_gch xa)), .unset, .unset, .unset, .unset, .unset, .unset] [(.int xb)]))) (fun _ kk => XS.istore X50.here hx rfl (hb hby at_12) rfl rfl (XS.iloadN X50.here hx rfl (hb hby at_14) rfl kk)) ?_
  obtain ⟨_, _, ⟨T51, L51, k51, n51⟩, -, X51, ⟨Lc51, hQ51, l51, y51, z51⟩, st51⟩ := Jvm.LawKit.callS X50 hx (y := MN1) hown (mvT hZ (wd 1 rfl)) (mvT hZ (wd 2 rfl)) (mvT hZ (wd 3 rfl)) (mvT hZ (wd 4 rfl)) (by decide) (backOf (W := 0) (gch l Z a0 hw [] xb h0 n0 (by omega)) hZ (wd 4 rfl) (wd 3 rfl) (by decide) (by decide)) (g := (mkF m 15 #[.val (.int ln), .val (.int xa), .val (.int xb), .val (.int xc), .val (.int xd), .val (.int (3 : Int32)), .val (.int (own_gch xa)), .unset, .unset, .unset, .unset, .unset, .unset] [(.int xb)])) rfl (by rw [hml]; rfl) (argsL := [(.int xb)]) (rest := []) (lenOf pd__I_C rfl) rfl (Nat.le_of_eq rfl) (hb hby at_15) (fun _ _ => ⟨rfl, e50, (by decide : 0 + 0 ≤ _), (by decide : 0 + 0 ≤ _)⟩)
  dsimp only [Pt.U, Pt.locs, Pt.cells, Pt.slots] at X51 l51 y51 z51 st51 hQ51
  subst l51 y51 z51
  obtain ⟨rfl, N51q, e51⟩ := hQ51
  have N51 := Fr.app N50 N51q
  refine go_of (B := (T51.setTop (mkF m 18 #[.val (.int ln), .val (.int xa), .val (.int xb), .val (.int xc), .val (.int xd), .val (.int (3 : Int32)), .val (.int (own_gch xa)), .unset, .unset, .unset, .unset, .unset, .unset] [(.int (own_gch xb))]))) (st51) ?_
  refine go_of (B := (T51.setTop (mkF m 21 #[.val (.int ln), .val (.int xa), .val (.int xb), .val (.int xc), .val (.int xd), .val (.int (3 : Int32)), .val (.int (own_gch xa)), .val (.int (own_gch xb)), .unset, .unset, .unset, .unset, .unset] [(.int xc)]))) (fun _ kk => XS.istore X51.here hx rfl (hb hby at_18) rfl rfl (XS.iloadN X51.here hx rfl (hb hby at_20) rfl kk)) ?_
  obtain ⟨_, _, ⟨T52, L52, k52, n52⟩, -, X52, ⟨Lc52, hQ52, l52, y52, z52⟩, st52⟩ := Jvm.LawKit.callS X51 hx (y := MN1) hown (mvT hZ (wd 1 rfl)) (mvT hZ (wd 2 rfl)) (mvT hZ (wd 3 rfl)) (mvT hZ (wd 4 rfl)) (by decide) (backOf (W := 0) (gch l Z a0 hw [] xc h0 n0 (by omega)) hZ (wd 4 rfl) (wd 3 rfl) (by decide) (by decide)) (g := (mkF m 21 #[.val (.int ln), .val (.int xa), .val (.int xb), .val (.int xc), .val (.int xd), .val (.int (3 : Int32)), .val (.int (own_gch xa)), .val (.int (own_gch xb)), .unset, .unset, .unset, .unset, .unset] [(.int xc)])) rfl (by rw [hml]; rfl) (argsL := [(.int xc)]) (rest := []) (lenOf pd__I_C rfl) rfl (Nat.le_of_eq rfl) (hb hby at_21) (fun _ _ => ⟨rfl, e51, (by decide : 0 + 0 ≤ _), (by decide : 0 + 0 ≤ _)⟩)
  dsimp only [Pt.U, Pt.locs, Pt.cells, Pt.slots] at X52 l52 y52 z52 st52 hQ52
  subst l52 y52 z52
  obtain ⟨rfl, N52q, e52⟩ := hQ52
  have N52 := Fr.app N51 N52q
  refine go_of (B := (T52.setTop (mkF m 24 #[.val (.int ln), .val (.int xa), .val (.int xb), .val (.int xc), .val (.int xd), .val (.int (3 : Int32)), .val (.int (own_gch xa)), .val (.int (own_gch xb)), .unset, .unset, .unset, .unset, .unset] [(.int (own_gch xc))]))) (st52) ?_
  refine go_of (B := (T52.setTop (mkF m 28 #[.val (.int ln), .val (.int xa), .val (.int xb), .val (.int xc), .val (.int xd), .val (.int (3 : Int32)), .val (.int (own_gch xa)), .val (.int (own_gch xb)), .val (.int (own_gch xc)), .unset, .unset, .unset, .unset] [(.int xd)]))) (fun _ kk => XS.istore X52.here hx rfl (hb hby at_24) rfl rfl (XS.iload X52.here hx rfl (hb hby at_26) rfl kk)) ?_
  obtain ⟨_, _, ⟨T53, L53, k53, n53⟩, -, X53, ⟨Lc53, hQ53, l53, y53, z53⟩, st53⟩ := Jvm.LawKit.callS X52 hx (y := MN1) hown (mvT hZ (wd 1 rfl)) (mvT hZ (wd 2 rfl)) (mvT hZ (wd 3 rfl)) (mvT hZ (wd 4 rfl)) (by decide) (backOf (W := 0) (gch l Z a0 hw [] xd h0 n0 (by omega)) hZ (wd 4 rfl) (wd 3 rfl) (by decide) (by decide)) (g := (mkF m 28 #[.val (.int ln), .val (.int xa), .val (.int xb), .val (.int xc), .val (.int xd), .val (.int (3 : Int32)), .val (.int (own_gch xa)), .val (.int (own_gch xb)), .val (.int (own_gch xc)), .unset, .unset, .unset, .unset] [(.int xd)])) rfl (by rw [hml]; rfl) (argsL := [(.int xd)]) (rest := []) (lenOf pd__I_C rfl) rfl (Nat.le_of_eq rfl) (hb hby at_28) (fun _ _ => ⟨rfl, e52, (by decide : 0 + 0 ≤ _), (by decide : 0 + 0 ≤ _)⟩)
  dsimp only [Pt.U, Pt.locs, Pt.cells, Pt.slots] at X53 l53 y53 z53 st53 hQ53
  subst l53 y53 z53
  obtain ⟨rfl, N53q, e53⟩ := hQ53
  have N53 := Fr.app N52 N53q
  refine go_of (B := (T53.setTop (mkF m 31 #[.val (.int ln), .val (.int xa), .val (.int xb), .val (.int xc), .val (.int xd), .val (.int (3 : Int32)), .val (.int (own_gch xa)), .val (.int (own_gch xb)), .val (.int (own_gch xc)), .unset, .unset, .unset, .unset] [(.int (own_gch xd))]))) (st53) ?_
  refine go_of (B := (T53.setTop (mkF m 65 #[.val (.int ln), .val (.int xa), .val (.int xb), .val (.int xc), .val (.int xd), .val (.int (3 : Int32)), .val (.int (own_gch xa)), .val (.int (own_gch xb)), .val (.int (own_gch xc)), .val (.int (own_gch xd)), .unset, .unset, .unset] []))) (fun _ kk => XS.istore X53.here hx rfl (hb hby at_31) rfl rfl (XS.iload X53.here hx rfl (hb hby at_33) rfl (XS.ifYes X53.here hx rfl (pc0 := 35) (pc' := 46) rfl (hb hby at_35) rfl ((if0 _ _).trans (feq (by decide : ¬ ((3 : Int32) = (0 : Int32)))).2) (by decide) (by decide) (XS.iload X53.here hx rfl (hb hby at_46) rfl (XS.iconst X53.here hx rfl (hb hby at_48) (XS.icmpYes X53.here hx rfl (pc0 := 49) (pc' := 65) rfl (hb hby at_49) rfl (feq (by decide : ¬ ((3 : Int32) = (1 : Int32)))).2 (by decide) (by decide) kk)))))) ?_
  refine go_of (B := (T53.setTop (mkF m 95 #[.val (.int ln), .val (.int xa), .val (.int xb), .val (.int xc), .val (.int xd), .val (.int (3 : Int32)), .val (.int (own_gch xa)), .val (.int (own_gch xb)), .val (.int (own_gch xc)), .val (.int (own_gch xd)), .unset, .unset, .unset] []))) (fun _ kk => XS.iload X53.here hx rfl (hb hby at_65) rfl (XS.iconst X53.here hx rfl (hb hby at_67) (XS.icmpYes X53.here hx rfl (pc0 := 68) (pc' := 89) rfl (hb hby at_68) rfl (feq (by decide : ¬ ((3 : Int32) = (2 : Int32)))).2 (by decide) (by decide) (XS.iload X53.here hx rfl (hb hby at_89) rfl (XS.iconst X53.here hx rfl (hb hby at_91) (XS.icmpNo X53.here hx rfl (hb hby at_92) rfl (teq (by decide : (3 : Int32) = (3 : Int32))).2 kk)))))) ?_
  refine go_of (B := (T53.setTop (mkF m 96 #[.val (.int ln), .val (.int xa), .val (.int xb), .val (.int xc), .val (.int xd), .val (.int (3 : Int32)), .val (.int (own_gch xa)), .val (.int (own_gch xb)), .val (.int (own_gch xc)), .val (.int (own_gch xd)), .unset, .unset, .unset] [(.int (3 : Int32))]))) (fun _ kk => XS.iconst X53.here hx rfl (hb hby at_95) kk) ?_
  obtain ⟨T54, h54, k54, X54, e54, E54, A54, st54⟩ := newP X53 hx hZ (wd 6 rfl) e53 (g := (mkF m 96 #[.val (.int ln), .val (.int xa), .val (.int xb), .val (.int xc), .val (.int xd), .val (.int (3 : Int32)), .val (.int (own_gch xa)), .val (.int (own_gch xb)), .val (.int (own_gch xc)), .val (.int (own_gch xd)), .unset, .unset, .unset] [(.int (3 : Int32))])) rfl (hb hby at_96) rfl (by decide) (cap := 3) (by decide) (by decide) (by decide) (by decide)
  obtain ⟨b54, g54⟩ : ∃ z, z = h0.size := ⟨_, rfl⟩
  rw [← g54] at A54 st54
  have hi54 := own_nlt A54.lt
  have sz54 := E54.1
  have HC54 := HC0.trans (CHr.ext E54 HC0.1)
  have V54 : Arv Z h54 b54 k54 .char (3 : Int32) [(.int (0 : Int32)), (.int (0 : Int32)), (.int (0 : Int32))] (.int (0 : Int32)) := (Arv.new A54 (by decide)).pad (pad_rep [] (.int (0 : Int32)) 3)
  refine go_of (B := (T54.setTop (mkF m 98 #[.val (.int ln), .val (.int xa), .val (.int xb), .val (.int xc), .val (.int xd), .val (.int (3 : Int32)), .val (.int (own_gch xa)), .val (.int (own_gch xb)), .val (.int (own_gch xc)), .val (.int (own_gch xd)), .unset, .unset, .unset] [(.ref b54)]))) (st54) ?_
  refine go_of (B := (T54.setTop (mkF m 102 #[.val (.int ln), .val (.int xa), .val (.int xb), .val (.int xc), .val (.int xd), .val (.int (3 : Int32)), .val (.int (own_gch xa)), .val (.int (own_gch xb)), .val (.int (own_gch xc)), .val (.int (own_gch xd)), .unset, .unset, .unset] [(.int (own_gch xa)), (.int (0 : Int32)), (.ref b54), (.ref b54)]))) (fun _ kk => XS.dup X54.here hx rfl (hb hby at_98) rfl rfl (XS.iconst X54.here hx rfl (hb hby at_99) (XS.iload X54.here hx rfl (hb hby at_100) rfl kk))) ?_
  obtain ⟨cl55, Ar55, q55, Sz55, Nn55, Hh55, G55⟩ := id (V54)
  obtain ⟨T56, h56, X56, e56, W56, st56⟩ := stC X54 hx hZ e54 Ar55 (j := (0 : Int32)) (inb_of Sz55 ⟨by decide, by decide⟩) (g := (mkF m 102 #[.val (.int ln), .val (.int xa), .val (.int xb), .val (.int xc), .val (.int xd), .val (.int (3 : Int32)), .val (.int (own_gch xa)), .val (.int (own_gch xb)), .val (.int (own_gch xc)), .val (.int (own_gch xd)), .unset, .unset, .unset] [(.int (own_gch xa)), (.int (0 : Int32)), (.ref b54), (.ref b54)])) rfl rfl (hb hby at_102)
  have sz56 := W56.size
  have N56 := Fr.snoc X56 N53 ((by first | omega | exact own_ne (by omega) | exact own_le (by omega)) : n0 ≤ b54)
  have V56 : Arv Z h56 b54 k54 .char (3 : Int32) [(.int (nar .char (own_gch xa))), (.int (0 : Int32)), (.int (0 : Int32))] (.int (0 : Int32)) := Arv.set Ar55 q55 Sz55 Nn55 Hh55 G55 (fits_nar_char _) W56 0 rfl (Nat.le_of_ble_eq_true rfl)
  rw [own_narc16 (own_gchr xa)] at V56
  have SF56 := (own_safe_arv hZ.alike V54 (by decide) : (Safe Z own_EL _ h54 b54))
  have HC56 := HC54.trans (CHr.wr W56 SF56 HC54.1)
  refine go_of (B := (T56.setTop (mkF m 103 #[.val (.int ln), .val (.int xa), .val (.int xb), .val (.int xc), .val (.int xd), .val (.int (3 : Int32)), .val (.int (own_gch xa)), .val (.int (own_gch xb)), .val (.int (own_gch xc)), .val (.int (own_gch xd)), .unset, .unset, .unset] [(.ref b54)]))) (st56) ?_
  refine go_of (B := (T56.setTop (mkF m 107 #[.val (.int ln), .val (.int xa), .val (.int xb), .val (.int xc), .val (.int xd), .val (.int (3 : Int32)), .val (.int (own_gch xa)), .val (.int (own_gch xb)), .val (.int (own_gch xc)), .val (.int (own_gch xd)), .unset, .unset, .unset] [(.int (own_gch xb)), (.int (1 : Int32)), (.ref b54), (.ref b54)]))) (fun _ kk => XS.dup X56.here hx rfl (hb hby at_103) rfl rfl (XS.iconst X56.here hx rfl (hb hby at_104) (XS.iload X56.here hx rfl (hb hby at_105) rfl kk))) ?_
  obtain ⟨cl57, Ar57, q57, Sz57, Nn57, Hh57, G57⟩ := id (V56)
  obtain ⟨T58, h58, X58, e58, W58, st58⟩ := stC X56 hx hZ e56 Ar57 (j := (1 : Int32)) (inb_of Sz57 ⟨by decide, by decide⟩) (g := (mkF m 107 #[.val (.int ln), .val (.int xa), .val (.int xb), .val (.int xc), .val (.int xd), .val (.int (3 : Int32)), .val (.int (own_gch xa)), .val (.int (own_gch xb)), .val (.int (own_gch xc)), .val (.int (own_gch xd)), .unset, .unset, .unset] [(.int (own_gch xb)), (.int (1 : Int32)), (.ref b54), (.ref b54)])) rfl rfl (hb hby at_107)
  have sz58 := W58.size
  have N58 := Fr.snoc X58 N56 ((by first | omega | exact own_ne (by omega) | exact own_le (by omega)) : n0 ≤ b54)
  have V58 : Arv Z h58 b54 k54 .char (3 : Int32) [(.int (own_gch xa)), (.int (nar .char (own_gch xb))), (.int (0 : Int32))] (.int (0 : Int32)) := Arv.set Ar57 q57 Sz57 Nn57 Hh57 G57 (fits_nar_char _) W58 1 rfl (Nat.le_of_ble_eq_true rfl)
  rw [own_narc16 (own_gchr xb)] at V58
  have SF58 := (own_safe_arv hZ.alike V56 (by decide) : (Safe Z own_EL _ h56 b54))
  have HC58 := HC56.trans (CHr.wr W58 SF58 HC56.1)
  refine go_of (B := (T58.setTop (mkF m 108 #[.val (.int ln), .val (.int xa), .val (.int xb), .val (.int xc), .val (.int xd), .val (.int (3 : Int32)), .val (.int (own_gch xa)), .val (.int (own_gch xb)), .val (.int (own_gch xc)), .val (.int (own_gch xd)), .unset, .unset, .unset] [(.ref b54)]))) (st58) ?_
  refine go_of (B := (T58.setTop (mkF m 112 #[.val (.int ln), .val (.int xa), .val (.int xb), .val (.int xc), .val (.int xd), .val (.int (3 : Int32)), .val (.int (own_gch xa)), .val (.int (own_gch xb)), .val (.int (own_gch xc)), .val (.int (own_gch xd)), .unset, .unset, .unset] [(.int (own_gch xc)), (.int (2 : Int32)), (.ref b54), (.ref b54)]))) (fun _ kk => XS.dup X58.here hx rfl (hb hby at_108) rfl rfl (XS.iconst X58.here hx rfl (hb hby at_109) (XS.iload X58.here hx rfl (hb hby at_110) rfl kk))) ?_
  obtain ⟨cl59, Ar59, q59, Sz59, Nn59, Hh59, G59⟩ := id (V58)
  obtain ⟨T60, h60, X60, e60, W60, st60⟩ := stC X58 hx hZ e58 Ar59 (j := (2 : Int32)) (inb_of Sz59 ⟨by decide, by decide⟩) (g := (mkF m 112 #[.val (.int ln), .val (.int xa), .val (.int xb), .val (.int xc), .val (.int xd), .val (.int (3 : Int32)), .val (.int (own_gch xa)), .val (.int (own_gch xb)), .val (.int (own_gch xc)), .val (.int (own_gch xd)), .unset, .unset, .unset] [(.int (own_gch xc)), (.int (2 : Int32)), (.ref b54), (.ref b54)])) rfl rfl (hb hby at_112)
  have sz60 := W60.size
  have N60 := Fr.snoc X60 N58 ((by first | omega | exact own_ne (by omega) | exact own_le (by omega)) : n0 ≤ b54)
  have V60 : Arv Z h60 b54 k54 .char (3 : Int32) [(.int (own_gch xa)), (.int (own_gch xb)), (.int (nar .char (own_gch xc)))] (.int (0 : Int32)) := Arv.set Ar59 q59 Sz59 Nn59 Hh59 G59 (fits_nar_char _) W60 2 rfl (Nat.le_of_ble_eq_true rfl)
  rw [own_narc16 (own_gchr xc)] at V60
  have SF60 := (own_safe_arv hZ.alike V58 (by decide) : (Safe Z own_EL _ h58 b54))
  have HC60 := HC58.trans (CHr.wr W60 SF60 HC58.1)
  refine go_of (B := (T60.setTop (mkF m 113 #[.val (.int ln), .val (.int xa), .val (.int xb), .val (.int xc), .val (.int xd), .val (.int (3 : Int32)), .val (.int (own_gch xa)), .val (.int (own_gch xb)), .val (.int (own_gch xc)), .val (.int (own_gch xd)), .unset, .unset, .unset] [(.ref b54)]))) (st60) ?_
  refine go_of (B := (T60.setTop (mkF m 143 #[.val (.int ln), .val (.int xa), .val (.int xb), .val (.int xc), .val (.int xd), .val (.int (3 : Int32)), .val (.int (own_gch xa)), .val (.int (own_gch xb)), .val (.int (own_gch xc)), .val (.int (own_gch xd)), .val (.ref b54), .unset, .unset] []))) (fun _ kk => XS.astore X60.here hx rfl (hb hby at_113) rfl rfl rfl (XS.goto X60.here hx rfl (pc0 := 115) (pc' := 143) rfl (hb hby at_115) (by decide) (by decide) kk)) ?_
  have HJ61 : ∀ (Tj61 : State) (Lj61 : List Loc), Stand p l e room_1 (s.setVm s.vm) m args below meth c Tj61 Lj61 1 3 → Tj61.heap = h60 → Fr n0 Lj61 → ∀ (xh xe : Int32), xe = own_lit [(own_gch xa), (own_gch xb), (own_gch xc)] → Go p e below (Tj61.setTop (mkF m 217 #[.val (.int ln), .val (.int xa), .val (.int xb), .val (.int xc), .val (.int xd), .val (.int (3 : Int32)), .val (.int (own_gch xa)), .val (.int (own_gch xb)), .val (.int (own_gch xc)), .val (.int (own_gch xd)), .val (.ref b54), .val (.int xh), .val (.int xe)] [])) (fun oo' U2' => ∃ vv' LL', oo' = .returned vv' ∧ (Q_rm0 Z ln xa xb xc xd gC gF h0 n0) vv' U2'.heap LL' ∧ CHr Z own_EL s.vm s.heap U2'.vm U2'.heap ∧ ReturnedEndW s oo' U2' LL' room_1.cells room_1.slots) := by
    intro Tj61 Lj61 Xj61 ej61 Nj61 xh xe hjHJ61
    obtain ⟨T62, h62, X62, e62, E62, A62, D62, -, st62⟩ := newO Xj61 hx hZ hown (wd 7 rfl) (wd 8 rfl) (wd 9 rfl) ej61 (g := (mkF m 217 #[.val (.int ln), .val (.int xa), .val (.int xb), .val (.int xc), .val (.int xd), .val (.int (3 : Int32)), .val (.int (own_gch xa)), .val (.int (own_gch xb)), .val (.int (own_gch xc)), .val (.int (own_gch xd)), .val (.ref b54), .val (.int xh), .val (.int xe)] [])) rfl (hb hby at_217) (by decide) (by decide)
    obtain ⟨b62, g62⟩ : ∃ z, z = h60.size := ⟨_, rfl⟩
    rw [← g62] at A62 D62 st62
    have hi62 := own_nlt A62.lt
    have sz62 := E62.1
    have HC62 := HC60.trans (CHr.ext E62 HC60.1)
    have F62_value : Fld Z h62 b62 "java/lang/String" "value" "[B" .null := D62 (Or.inr (wd 22 rfl)) (ty := (.array .byte)) (by decide)
    have F62_coder : Fld Z h62 b62 "java/lang/String" "coder" "B" (.int (0 : Int32)) := D62 (Or.inr (wd 23 rfl)) (ty := .byte) (by decide)
    refine go_of (B := (T62.setTop (mkF m 220 #[.val (.int ln), .val (.int xa), .val (.int xb), .val (.int xc), .val (.int xd), .val (.int (3 : Int32)), .val (.int (own_gch xa)), .val (.int (own_gch xb)), .val (.int (own_gch xc)), .val (.int (own_gch xd)), .val (.ref b54), .val (.int xh), .val (.int xe)] [(.ref b62)]))) (st62) ?_
    refine go_of (B := (T62.setTop (mkF m 223 #[.val (.int ln), .val (.int xa), .val (.int xb), .val (.int xc), .val (.int xd), .val (.int (3 : Int32)), .val (.int (own_gch xa)), .val (.int (own_gch xb)), .val (.int (own_gch xc)), .val (.int (own_gch xd)), .val (.ref b54), .val (.int xh), .val (.int xe)] [(.ref b54), (.ref b62), (.ref b62)]))) (fun _ kk => XS.dup X62.here hx rfl (hb hby at_220) rfl rfl (XS.aload X62.here hx rfl (hb hby at_221) rfl rfl kk)) ?_
    have sf_63 := (own_safe_null hZ.alike A62 F62_value : (Safe Z own_EL _ h62 b62))
    have cf_64 := (((((O.ext E54).wr W56 (by first | omega | exact own_ne (by omega) | exact own_le (by omega))).wr W58 (by first | omega | exact own_ne (by omega) | exact own_le (by omega))).wr W60 (by first | omega | exact own_ne (by omega) | exact own_le (by omega))).ext E62)
    have cf_65 := (V60.ext E62)
    obtain ⟨_, _, ⟨T66, L66, k66, n66⟩, -, X66, ⟨Lc66, hQ66, l66, y66, z66⟩, st66⟩ := X62.specialBack hx (y := MN5) rfl hown (mvT hZ (wd 10 rfl)) (mvT hZ (wd 11 rfl)) (mvT hZ (wd 12 rfl)) (by decide) (backOf (W := 1) (u_i1_3 l Z a0 hw [] b62 b54 (own_gch xa) (own_gch xb) (own_gch xc) k54 gC _ _ h62 n0 (by omega) cf_64 SC hgC SU A62 F62_value F62_coder (by first | omega | exact own_ne (by omega) | exact own_le (by omega)) cf_65 (own_gchr xa) (own_gchr xb) (own_gchr xc)) hZ (wd 12 rfl) (wd 9 rfl) (by decide) (by decide)) (g := (mkF m 223 #[.val (.int ln), .val (.int xa), .val (.int xb), .val (.int xc), .val (.int xd), .val (.int (3 : Int32)), .val (.int (own_gch xa)), .val (.int (own_gch xb)), .val (.int (own_gch xc)), .val (.int (own_gch xd)), .val (.ref b54), .val (.int xh), .val (.int xe)] [(.ref b54), (.ref b62), (.ref b62)])) rfl (by rw [hml]; rfl) (Steps.refl _) (a := b62) (argsL := [(.ref b54)]) (rest := [(.ref b62)]) (lenOf pd___C_V rfl) rfl (Nat.le_of_eq rfl) (hb hby at_223) (fun _ _ => ⟨rfl, e62, (by decide : 2 + 2 ≤ _), (by decide : 7 + 9 ≤ _)⟩)
    dsimp only [Pt.U, Pt.locs, Pt.cells, Pt.slots] at X66 l66 y66 z66 st66 hQ66
    subst l66 y66 z66
    obtain ⟨rfl, N66q, K66, S66⟩ := hQ66
    have N66 := Fr.app Nj61 N66q
    have sz66 := K66.1
    have SK66 : ∀ x ∈ [b62], Safe Z own_EL _ h62 x := (allS sf_63 all0)
    have HC66 := HC62.trans (CHr.keep K66 SK66 HC62.1)
    refine go_tr (B := (T66.setTop (mkF m 226 #[.val (.int ln), .val (.int xa), .val (.int xb), .val (.int xc), .val (.int xd), .val (.int (3 : Int32)), .val (.int (own_gch xa)), .val (.int (own_gch xb)), .val (.int (own_gch xc)), .val (.int (own_gch xd)), .val (.ref b54), .val (.int xh), .val (.int xe)] [(.ref b62)]))) (st66) ?_
    have cf_67 := (cf_64.keep K66 (allS (by first | omega | exact own_ne (by omega) | exact own_le (by omega)) all0))
    obtain ⟨_, _, ⟨T68, L68, k68, n68⟩, -, X68, ⟨Lc68, hQ68, l68, y68, z68⟩, st68⟩ := Jvm.LawKit.callS X66 hx (y := MN0) hown (mvT hZ (wd 28 rfl)) (mvT hZ (wd 29 rfl)) (mvT hZ (wd 30 rfl)) (mvT hZ (wd 31 rfl)) (by decide) (backOf (W := 0) (isl_3 l Z a0 hw [] b62 (own_gch xa) (own_gch xb) (own_gch xc) gC gF T66.heap n0 (by omega) cf_67 SC hgC S66 SU SF rgF) hZ (wd 31 rfl) (wd 30 rfl) (by decide) (by decide)) (g := (mkF m 226 #[.val (.int ln), .val (.int xa), .val (.int xb), .val (.int xc), .val (.int xd), .val (.int (3 : Int32)), .val (.int (own_gch xa)), .val (.int (own_gch xb)), .val (.int (own_gch xc)), .val (.int (own_gch xd)), .val (.ref b54), .val (.int xh), .val (.int xe)] [(.ref b62)])) rfl (by rw [hml]; rfl) (argsL := [(.ref b62)]) (rest := []) (lenOf pd__Ljava_lang_String__Z rfl) rfl (Nat.le_of_eq rfl) (hb hby at_226) (fun _ _ => ⟨rfl, rfl, (by decide : 4 + 0 ≤ _), (by decide : 16 + 0 ≤ _)⟩)
    dsimp only [Pt.U, Pt.locs, Pt.cells, Pt.slots] at X68 l68 y68 z68 st68 hQ68
    subst l68 y68 z68
    obtain ⟨rfl, N68q, e68⟩ := hQ68
    have N68 := Fr.app N66 N68q
    refine go_of (B := (T68.setTop (mkF m 229 #[.val (.int ln), .val (.int xa), .val (.int xb), .val (.int xc), .val (.int xd), .val (.int (3 : Int32)), .val (.int (own_gch xa)), .val (.int (own_gch xb)), .val (.int (own_gch xc)), .val (.int (own_gch xd)), .val (.ref b54), .val (.int xh), .val (.int xe)] [(.int (own_lit [(own_gch xa), (own_gch xb), (own_gch xc)]))]))) (st68) ?_
    refine go_of (B := (T68.setTop (mkF m 239 #[.val (.int ln), .val (.int xa), .val (.int xb), .val (.int xc), .val (.int xd), .val (.int (3 : Int32)), .val (.int (own_gch xa)), .val (.int (own_gch xb)), .val (.int (own_gch xc)), .val (.int (own_gch xd)), .val (.ref b54), .val (.int xh), .val (.int xe)] [(.int (1 : Int32))]))) (fun _ kk => XS.iload X68.here hx rfl (hb hby at_229) rfl (XS.icmpNo X68.here hx rfl (hb hby at_231) rfl (teq hjHJ61.symm).2 (XS.iconst X68.here hx rfl (hb hby at_234) (XS.goto X68.here hx rfl (pc0 := 235) (pc' := 239) rfl (hb hby at_235) (by decide) (by decide) kk)))) ?_
    refine go_endH X68 hZ hEL HC66 hh0 e68 hS (by rw [e68]; omega) (v := some (.int (nar .boolean (1 : Int32)))) (fun h => by rw [hret] at h; cases h) hlk (by decide) (by decide) (Q := (Q_rm0 Z ln xa xb xc xd gC gF h0 n0)) ?_ (fun fs hr => retN X68 hx (t := .boolean) hret (by simp) (hb hby at_239) hr)
    unfold Q_rm0
    try rw [e68]
    exact ⟨rfl, N68⟩
  refine go_of (B := (T60.setTop (mkF m 150 #[.val (.int ln), .val (.int xa), .val (.int xb), .val (.int xc), .val (.int xd), .val (.int (3 : Int32)), .val (.int (own_gch xa)), .val (.int (own_gch xb)), .val (.int (own_gch xc)), .val (.int (own_gch xd)), .val (.ref b54), .unset, .unset] [(.int (own_gch xa))]))) (fun _ kk => XS.iload X60.here hx rfl (hb hby at_143) rfl (XS.ifNo X60.here hx rfl (hb hby at_145) rfl ((if0 _ _).trans (tlt (by decide : (0 : Int32) < (3 : Int32))).2.2.2) (XS.iload X60.here hx rfl (hb hby at_148) rfl kk))) ?_
  obtain ⟨_, _, ⟨T69, L69, k69, n69⟩, -, X69, ⟨Lc69, hQ69, l69, y69, z69⟩, st69⟩ := Jvm.LawKit.callS X60 hx (y := MN2) hown (mvT hZ (wd 72 rfl)) (mvT hZ (wd 73 rfl)) (mvT hZ (wd 3 rfl)) (mvT hZ (wd 74 rfl)) (by decide) (backOf (W := 0) (wld l Z a0 hw [] (own_gch xa) h60 n0 (by omega)) hZ (wd 74 rfl) (wd 3 rfl) (by decide) (by decide)) (g := (mkF m 150 #[.val (.int ln), .val (.int xa), .val (.int xb), .val (.int xc), .val (.int xd), .val (.int (3 : Int32)), .val (.int (own_gch xa)), .val (.int (own_gch xb)), .val (.int (own_gch xc)), .val (.int (own_gch xd)), .val (.ref b54), .unset, .unset] [(.int (own_gch xa))])) rfl (by rw [hml]; rfl) (argsL := [(.int (own_gch xa))]) (rest := []) (lenOf pd__C_Z rfl) rfl (Nat.le_of_eq rfl) (hb hby at_150) (fun _ _ => ⟨rfl, e60, (by decide : 1 + 0 ≤ _), (by decide : 3 + 0 ≤ _)⟩)
  dsimp only [Pt.U, Pt.locs, Pt.cells, Pt.slots] at X69 l69 y69 z69 st69 hQ69
  subst l69 y69 z69
  obtain ⟨rfl, N69q, e69⟩ := hQ69
  have N69 := Fr.app N60 N69q
  refine go_of (B := (T69.setTop (mkF m 153 #[.val (.int ln), .val (.int xa), .val (.int xb), .val (.int xc), .val (.int xd), .val (.int (3 : Int32)), .val (.int (own_gch xa)), .val (.int (own_gch xb)), .val (.int (own_gch xc)), .val (.int (own_gch xd)), .val (.ref b54), .unset, .unset] [(.int (own_wl (own_gch xa)))]))) (st69) ?_
  by_cases hcc70 : (own_wl (own_gch xa)) = (0 : Int32)
  · refine go_of (B := (T69.setTop (mkF m 164 #[.val (.int ln), .val (.int xa), .val (.int xb), .val (.int xc), .val (.int xd), .val (.int (3 : Int32)), .val (.int (own_gch xa)), .val (.int (own_gch xb)), .val (.int (own_gch xc)), .val (.int (own_gch xd)), .val (.ref b54), .unset, .unset] [(.int (own_gch xb))]))) (fun _ kk => XS.ifNo X69.here hx rfl (hb hby at_153) rfl ((if0 _ _).trans (teq hcc70).2) (XS.iload X69.here hx rfl (hb hby at_156) rfl (XS.iconst X69.here hx rfl (hb hby at_158) (XS.icmpNo X69.here hx rfl (hb hby at_159) rfl (tlt (by decide : (1 : Int32) < (3 : Int32))).2.2.2 (XS.iload X69.here hx rfl (hb hby at_162) rfl kk))))) ?_
    obtain ⟨_, _, ⟨T71, L71, k71, n71⟩, -, X71, ⟨Lc71, hQ71, l71, y71, z71⟩, st71⟩ := Jvm.LawKit.callS X69 hx (y := MN2) hown (mvT hZ (wd 72 rfl)) (mvT hZ (wd 73 rfl)) (mvT hZ (wd 3 rfl)) (mvT hZ (wd 74 rfl)) (by decide) (backOf (W := 0) (wld l Z a0 hw [] (own_gch xb) h60 n0 (by omega)) hZ (wd 74 rfl) (wd 3 rfl) (by decide) (by decide)) (g := (mkF m 164 #[.val (.int ln), .val (.int xa), .val (.int xb), .val (.int xc), .val (.int xd), .val (.int (3 : Int32)), .val (.int (own_gch xa)), .val (.int (own_gch xb)), .val (.int (own_gch xc)), .val (.int (own_gch xd)), .val (.ref b54), .unset, .unset] [(.int (own_gch xb))])) rfl (by rw [hml]; rfl) (argsL := [(.int (own_gch xb))]) (rest := []) (lenOf pd__C_Z rfl) rfl (Nat.le_of_eq rfl) (hb hby at_164) (fun _ _ => ⟨rfl, e69, (by decide : 1 + 0 ≤ _), (by decide : 3 + 0 ≤ _)⟩)
    dsimp only [Pt.U, Pt.locs, Pt.cells, Pt.slots] at X71 l71 y71 z71 st71 hQ71
    subst l71 y71 z71
    obtain ⟨rfl, N71q, e71⟩ := hQ71
    have N71 := Fr.app N69 N71q
    refine go_of (B := (T71.setTop (mkF m 167 #[.val (.int ln), .val (.int xa), .val (.int xb), .val (.int xc), .val (.int xd), .val (.int (3 : Int32)), .val (.int (own_gch xa)), .val (.int (own_gch xb)), .val (.int (own_gch xc)), .val (.int (own_gch xd)), .val (.ref b54), .unset, .unset] [(.int (own_wl (own_gch xb)))]))) (st71) ?_
    by_cases hcc72 : (own_wl (own_gch xb)) = (0 : Int32)
    · refine go_of (B := (T71.setTop (mkF m 178 #[.val (.int ln), .val (.int xa), .val (.int xb), .val (.int xc), .val (.int xd), .val (.int (3 : Int32)), .val (.int (own_gch xa)), .val (.int (own_gch xb)), .val (.int (own_gch xc)), .val (.int (own_gch xd)), .val (.ref b54), .unset, .unset] [(.int (own_gch xc))]))) (fun _ kk => XS.ifNo X71.here hx rfl (hb hby at_167) rfl ((if0 _ _).trans (teq hcc72).2) (XS.iload X71.here hx rfl (hb hby at_170) rfl (XS.iconst X71.here hx rfl (hb hby at_172) (XS.icmpNo X71.here hx rfl (hb hby at_173) rfl (tlt (by decide : (2 : Int32) < (3 : Int32))).2.2.2 (XS.iload X71.here hx rfl (hb hby at_176) rfl kk))))) ?_
      obtain ⟨_, _, ⟨T73, L73, k73, n73⟩, -, X73, ⟨Lc73, hQ73, l73, y73, z73⟩, st73⟩ := Jvm.LawKit.callS X71 hx (y := MN2) hown (mvT hZ (wd 72 rfl)) (mvT hZ (wd 73 rfl)) (mvT hZ (wd 3 rfl)) (mvT hZ (wd 74 rfl)) (by decide) (backOf (W := 0) (wld l Z a0 hw [] (own_gch xc) h60 n0 (by omega)) hZ (wd 74 rfl) (wd 3 rfl) (by decide) (by decide)) (g := (mkF m 178 #[.val (.int ln), .val (.int xa), .val (.int xb), .val (.int xc), .val (.int xd), .val (.int (3 : Int32)), .val (.int (own_gch xa)), .val (.int (own_gch xb)), .val (.int (own_gch xc)), .val (.int (own_gch xd)), .val (.ref b54), .unset, .unset] [(.int (own_gch xc))])) rfl (by rw [hml]; rfl) (argsL := [(.int (own_gch xc))]) (rest := []) (lenOf pd__C_Z rfl) rfl (Nat.le_of_eq rfl) (hb hby at_178) (fun _ _ => ⟨rfl, e71, (by decide : 1 + 0 ≤ _), (by decide : 3 + 0 ≤ _)⟩)
      dsimp only [Pt.U, Pt.locs, Pt.cells, Pt.slots] at X73 l73 y73 z73 st73 hQ73
      subst l73 y73 z73
      obtain ⟨rfl, N73q, e73⟩ := hQ73
      have N73 := Fr.app N71 N73q
      refine go_of (B := (T73.setTop (mkF m 181 #[.val (.int ln), .val (.int xa), .val (.int xb), .val (.int xc), .val (.int xd), .val (.int (3 : Int32)), .val (.int (own_gch xa)), .val (.int (own_gch xb)), .val (.int (own_gch xc)), .val (.int (own_gch xd)), .val (.ref b54), .unset, .unset] [(.int (own_wl (own_gch xc)))]))) (st73) ?_
      by_cases hcc74 : (own_wl (own_gch xc)) = (0 : Int32)
      · refine go_of (B := (T73.setTop (mkF m 205 #[.val (.int ln), .val (.int xa), .val (.int xb), .val (.int xc), .val (.int xd), .val (.int (3 : Int32)), .val (.int (own_gch xa)), .val (.int (own_gch xb)), .val (.int (own_gch xc)), .val (.int (own_gch xd)), .val (.ref b54), .val (.int (0 : Int32)), .unset] []))) (fun _ kk => XS.ifNo X73.here hx rfl (hb hby at_181) rfl ((if0 _ _).trans (teq hcc74).2) (XS.iload X73.here hx rfl (hb hby at_184) rfl (XS.iconst X73.here hx rfl (hb hby at_186) (XS.icmpYes X73.here hx rfl (pc0 := 187) (pc' := 202) rfl (hb hby at_187) rfl (flt (by decide : ¬ ((3 : Int32) < (3 : Int32)))).2.2.2 (by decide) (by decide) (XS.iconst X73.here hx rfl (hb hby at_202) (XS.istore X73.here hx rfl (hb hby at_203) rfl rfl kk)))))) ?_
        refine go_of (B := (T73.setTop (mkF m 217 #[.val (.int ln), .val (.int xa), .val (.int xb), .val (.int xc), .val (.int xd), .val (.int (3 : Int32)), .val (.int (own_gch xa)), .val (.int (own_gch xb)), .val (.int (own_gch xc)), .val (.int (own_gch xd)), .val (.ref b54), .val (.int (0 : Int32)), .val (.int (1 : Int32))] []))) (fun _ kk => XS.iload X73.here hx rfl (hb hby at_205) rfl (XS.ifNo X73.here hx rfl (hb hby at_207) rfl ((if0 _ _).trans (teq (by decide : (0 : Int32) = (0 : Int32))).2) (XS.iconst X73.here hx rfl (hb hby at_210) (XS.goto X73.here hx rfl (pc0 := 211) (pc' := 215) rfl (hb hby at_211) (by decide) (by decide) (XS.istore X73.here hx rfl (hb hby at_215) rfl rfl kk))))) ?_
        exact HJ61 _ _ X73 e73 N73 (0 : Int32) (1 : Int32) (by rw [own_litc hcc70, own_litc hcc72, own_litc hcc74, own_litn])
      · refine go_of (B := (T73.setTop (mkF m 214 #[.val (.int ln), .val (.int xa), .val (.int xb), .val (.int xc), .val (.int xd), .val (.int (3 : Int32)), .val (.int (own_gch xa)), .val (.int (own_gch xb)), .val (.int (own_gch xc)), .val (.int (own_gch xd)), .val (.ref b54), .val (.int (1 : Int32)), .unset] []))) (fun _ kk => XS.ifYes X73.here hx rfl (pc0 := 181) (pc' := 198) rfl (hb hby at_181) rfl ((if0 _ _).trans (feq hcc74).2) (by decide) (by decide) (XS.iconst X73.here hx rfl (hb hby at_198) (XS.goto X73.here hx rfl (pc0 := 199) (pc' := 203) rfl (hb hby at_199) (by decide) (by decide) (XS.istore X73.here hx rfl (hb hby at_203) rfl rfl (XS.iload X73.here hx rfl (hb hby at_205) rfl (XS.ifYes X73.here hx rfl (pc0 := 207) (pc' := 214) rfl (hb hby at_207) rfl ((if0 _ _).trans (feq (by decide : ¬ ((1 : Int32) = (0 : Int32)))).2) (by decide) (by decide) kk)))))) ?_
        refine go_of (B := (T73.setTop (mkF m 217 #[.val (.int ln), .val (.int xa), .val (.int xb), .val (.int xc), .val (.int xd), .val (.int (3 : Int32)), .val (.int (own_gch xa)), .val (.int (own_gch xb)), .val (.int (own_gch xc)), .val (.int (own_gch xd)), .val (.ref b54), .val (.int (1 : Int32)), .val (.int (0 : Int32))] []))) (fun _ kk => XS.iconst X73.here hx rfl (hb hby at_214) (XS.istore X73.here hx rfl (hb hby at_215) rfl rfl kk)) ?_
        exact HJ61 _ _ X73 e73 N73 (1 : Int32) (0 : Int32) (by rw [own_litc hcc70, own_litc hcc72, own_litw hcc74])
    · refine go_of (B := (T71.setTop (mkF m 214 #[.val (.int ln), .val (.int xa), .val (.int xb), .val (.int xc), .val (.int xd), .val (.int (3 : Int32)), .val (.int (own_gch xa)), .val (.int (own_gch xb)), .val (.int (own_gch xc)), .val (.int (own_gch xd)), .val (.ref b54), .val (.int (1 : Int32)), .unset] []))) (fun _ kk => XS.ifYes X71.here hx rfl (pc0 := 167) (pc' := 198) rfl (hb hby at_167) rfl ((if0 _ _).trans (feq hcc72).2) (by decide) (by decide) (XS.iconst X71.here hx rfl (hb hby at_198) (XS.goto X71.here hx rfl (pc0 := 199) (pc' := 203) rfl (hb hby at_199) (by decide) (by decide) (XS.istore X71.here hx rfl (hb hby at_203) rfl rfl (XS.iload X71.here hx rfl (hb hby at_205) rfl (XS.ifYes X71.here hx rfl (pc0 := 207) (pc' := 214) rfl (hb hby at_207) rfl ((if0 _ _).trans (feq (by decide : ¬ ((1 : Int32) = (0 : Int32)))).2) (by decide) (by decide) kk)))))) ?_
      refine go_of (B := (T71.setTop (mkF m 217 #[.val (.int ln), .val (.int xa), .val (.int xb), .val (.int xc), .val (.int xd), .val (.int (3 : Int32)), .val (.int (own_gch xa)), .val (.int (own_gch xb)), .val (.int (own_gch xc)), .val (.int (own_gch xd)), .val (.ref b54), .val (.int (1 : Int32)), .val (.int (0 : Int32))] []))) (fun _ kk => XS.iconst X71.here hx rfl (hb hby at_214) (XS.istore X71.here hx rfl (hb hby at_215) rfl rfl kk)) ?_
      exact HJ61 _ _ X71 e71 N71 (1 : Int32) (0 : Int32) (by rw [own_litc hcc70, own_litw hcc72])
  · refine go_of (B := (T69.setTop (mkF m 214 #[.val (.int ln), .val (.int xa), .val (.int xb), .val (.int xc), .val (.int xd), .val (.int (3 : Int32)), .val (.int (own_gch xa)), .val (.int (own_gch xb)), .val (.int (own_gch xc)), .val (.int (own_gch xd)), .val (.ref b54), .val (.int (1 : Int32)), .unset] []))) (fun _ kk => XS.ifYes X69.here hx rfl (pc0 := 153) (pc' := 198) rfl (hb hby at_153) rfl ((if0 _ _).trans (feq hcc70).2) (by decide) (by decide) (XS.iconst X69.here hx rfl (hb hby at_198) (XS.goto X69.here hx rfl (pc0 := 199) (pc' := 203) rfl (hb hby at_199) (by decide) (by decide) (XS.istore X69.here hx rfl (hb hby at_203) rfl rfl (XS.iload X69.here hx rfl (hb hby at_205) rfl (XS.ifYes X69.here hx rfl (pc0 := 207) (pc' := 214) rfl (hb hby at_207) rfl ((if0 _ _).trans (feq (by decide : ¬ ((1 : Int32) = (0 : Int32)))).2) (by decide) (by decide) kk)))))) ?_
    refine go_of (B := (T69.setTop (mkF m 217 #[.val (.int ln), .val (.int xa), .val (.int xb), .val (.int xc), .val (.int xd), .val (.int (3 : Int32)), .val (.int (own_gch xa)), .val (.int (own_gch xb)), .val (.int (own_gch xc)), .val (.int (own_gch xd)), .val (.ref b54), .val (.int (1 : Int32)), .val (.int (0 : Int32))] []))) (fun _ kk => XS.iconst X69.here hx rfl (hb hby at_214) (XS.istore X69.here hx rfl (hb hby at_215) rfl rfl kk)) ?_
    exact HJ61 _ _ X69 e69 N69 (1 : Int32) (0 : Int32) (by rw [own_litw hcc70])
theorem lw4 {p : Program} {l : Launch} {e : Env} {s : State} {m : MethodId} {args : Array Value} {below : List Frame} {meth : Method} {c : Code} {Z : State} {a0 : Array Value} {h0 : Heap} {n0 : Nat} (ln : Int32) (xa : Int32) (xb : Int32) (xc : Int32) (xd : Int32) (gC : Int32) (gF : Value) {T0 : State} {locs : List Loc}
    (X0 : Stand p l e room_1 s m args below meth c T0 locs 0 0) (hx : p.tables.exec = Jvm.exec) (hZ : Z.Warmed39 s.vm) (hw : TW a0 Z) (hby : c.code = code) (hml : c.maxLocals = 13) (hown : s.vm.findClass "com/example/grantline/grantline/GlobIsLiteralPinLaw" = some m.cls) (hret : meth.sig.returnType = (some .boolean)) (hlk : meth.locks = false) (e0 : T0.heap = h0) (N0 : Fr n0 locs) (Z0 : n0 ≤ h0.size) (O : Old Z n0 h0) (SC : Sta Z Z.heap "java/lang/String" "COMPACT_STRINGS" "Z" (.int gC)) (hgC : ¬ gC = (0 : Int32)) (SU : US Z) (SF : Sta Z Z.heap "jdk/internal/util/Preconditions" "SIOOBE_FORMATTER" "Ljava/util/function/BiFunction;" gF) (rgF : gF.isRef = true) (hh0 : s.heap = h0) (hCH : CHv Z own_EL s.vm h0) :
    Go p e below (T0.setTop (mkF m 8 #[.val (.int ln), .val (.int xa), .val (.int xb), .val (.int xc), .val (.int xd), .val (.int (4 : Int32)), .unset, .unset, .unset, .unset, .unset, .unset, .unset] [])) (fun oo' U2' => ∃ vv' LL', oo' = .returned vv' ∧ (Q_rm0 Z ln xa xb xc xd gC gF h0 n0) vv' U2'.heap LL' ∧ CHr Z own_EL s.vm s.heap U2'.vm U2'.heap ∧ ReturnedEndW s oo' U2' LL' room_1.cells room_1.slots) := by
  have wd := @own_wd _ _ hw
  have X0 : Stand p l e room_1 (s.setVm s.vm) m args below meth c T0 locs 0 0 := X0
  have hS : s.Since s.vm 0 := (State.WarmedH.refl s).since 0
  have hEL := own_EW hw
  have HC0 := CHr.refl hCH
  refine go_of (B := (T0.setTop (mkF m 9 #[.val (.int ln), .val (.int xa), .val (.int xb), .val (.int xc), .val (.int xd), .val (.int (4 : Int32)), .unset, .unset, .unset, .unset, .unset, .unset, .unset] [(.int xa)]))) (fun _ kk => XS.iloadN X0.here hx rfl (hb hby at_8) rfl kk) ?_
  obtain ⟨_, _, ⟨T75, L75, k75, n75⟩, -, X75, ⟨Lc75, hQ75, l75, y75, z75⟩, st75⟩ := Jvm.LawKit.callS X0 hx (y := MN1) hown (mvT hZ (wd 1 rfl)) (mvT hZ (wd 2 rfl)) (mvT hZ (wd 3 rfl)) (mvT hZ (wd 4 rfl)) (by decide) (backOf (W := 0) (gch l Z a0 hw [] xa h0 n0 (by omega)) hZ (wd 4 rfl) (wd 3 rfl) (by decide) (by decide)) (g := (mkF m 9 #[.val (.int ln), .val (.int xa), .val (.int xb), .val (.int xc), .val (.int xd), .val (.int (4 : Int32)), .unset, .unset, .unset, .unset, .unset, .unset, .unset] [(.int xa)])) rfl (by rw [hml]; rfl) (argsL := [(.int xa)]) (rest := []) (lenOf pd__I_C rfl) rfl (Nat.le_of_eq rfl) (hb hby at_9) (fun _ _ => ⟨rfl, e0, (by decide : 0 + 0 ≤ _), (by decide : 0 + 0 ≤ _)⟩)
  dsimp only [Pt.U, Pt.locs, Pt.cells, Pt.slots] at X75 l75 y75 z75 st75 hQ75
  subst l75 y75 z75
  obtain ⟨rfl, N75q, e75⟩ := hQ75
  have N75 := Fr.app N0 N75q
  refine go_of (B := (T75.setTop (mkF m 12 #[.val (.int ln), .val (.int xa), .val (.int xb), .val (.int xc), .val (.int xd), .val (.int (4 : Int32)), .unset, .unset, .unset, .unset, .unset, .unset, .unset] [(.int (own_gch xa))]))) (st75) ?_
  refine go_of (B := (T75.setTop (mkF m 15 #[.val (.int ln), .val (.int xa), .val (.int xb), .val (.int xc), .val (.int xd), .val (.int (4 : Int32)), .val (.int (own_gch xa)), .unset, .unset, .unset, .unset, .unset, .unset] [(.int xb)]))) (fun _ kk => XS.istore X75.here hx rfl (hb hby at_12) rfl rfl (XS.iloadN X75.here hx rfl (hb hby at_14) rfl kk)) ?_
  obtain ⟨_, _, ⟨T76, L76, k76, n76⟩, -, X76, ⟨Lc76, hQ76, l76, y76, z76⟩, st76⟩ := Jvm.LawKit.callS X75 hx (y := MN1) hown (mvT hZ (wd 1 rfl)) (mvT hZ (wd 2 rfl)) (mvT hZ (wd 3 rfl)) (mvT hZ (wd 4 rfl)) (by decide) (backOf (W := 0) (gch l Z a0 hw [] xb h0 n0 (by omega)) hZ (wd 4 rfl) (wd 3 rfl) (by decide) (by decide)) (g := (mkF m 15 #[.val (.int ln), .val (.int xa), .val (.int xb), .val (.int xc), .val (.int xd), .val (.int (4 : Int32)), .val (.int (own_gch xa)), .unset, .unset, .unset, .unset, .unset, .unset] [(.int xb)])) rfl (by rw [hml]; rfl) (argsL := [(.int xb)]) (rest := []) (lenOf pd__I_C rfl) rfl (Nat.le_of_eq rfl) (hb hby at_15) (fun _ _ => ⟨rfl, e75, (by decide : 0 + 0 ≤ _), (by decide : 0 + 0 ≤ _)⟩)
  dsimp only [Pt.U, Pt.locs, Pt.cells, Pt.slots] at X76 l76 y76 z76 st76 hQ76
  subst l76 y76 z76
  obtain ⟨rfl, N76q, e76⟩ := hQ76
  have N76 := Fr.app N75 N76q
  refine go_of (B := (T76.setTop (mkF m 18 #[.val (.int ln), .val (.int xa), .val (.int xb), .val (.int xc), .val (.int xd), .val (.int (4 : Int32)), .val (.int (own_gch xa)), .unset, .unset, .unset, .unset, .unset, .unset] [(.int (own_gch xb))]))) (st76) ?_
  refine go_of (B := (T76.setTop (mkF m 21 #[.val (.int ln), .val (.int xa), .val (.int xb), .val (.int xc), .val (.int xd), .val (.int (4 : Int32)), .val (.int (own_gch xa)), .val (.int (own_gch xb)), .unset, .unset, .unset, .unset, .unset] [(.int xc)]))) (fun _ kk => XS.istore X76.here hx rfl (hb hby at_18) rfl rfl (XS.iloadN X76.here hx rfl (hb hby at_20) rfl kk)) ?_
  obtain ⟨_, _, ⟨T77, L77, k77, n77⟩, -, X77, ⟨Lc77, hQ77, l77, y77, z77⟩, st77⟩ := Jvm.LawKit.callS X76 hx (y := MN1) hown (mvT hZ (wd 1 rfl)) (mvT hZ (wd 2 rfl)) (mvT hZ (wd 3 rfl)) (mvT hZ (wd 4 rfl)) (by decide) (backOf (W := 0) (gch l Z a0 hw [] xc h0 n0 (by omega)) hZ (wd 4 rfl) (wd 3 rfl) (by decide) (by decide)) (g := (mkF m 21 #[.val (.int ln), .val (.int xa), .val (.int xb), .val (.int xc), .val (.int xd), .val (.int (4 : Int32)), .val (.int (own_gch xa)), .val (.int (own_gch xb)), .unset, .unset, .unset, .unset, .unset] [(.int xc)])) rfl (by rw [hml]; rfl) (argsL := [(.int xc)]) (rest := []) (lenOf pd__I_C rfl) rfl (Nat.le_of_eq rfl) (hb hby at_21) (fun _ _ => ⟨rfl, e76, (by decide : 0 + 0 ≤ _), (by decide : 0 + 0 ≤ _)⟩)
  dsimp only [Pt.U, Pt.locs, Pt.cells, Pt.slots] at X77 l77 y77 z77 st77 hQ77
  subst l77 y77 z77
  obtain ⟨rfl, N77q, e77⟩ := hQ77
  have N77 := Fr.app N76 N77q
  refine go_of (B := (T77.setTop (mkF m 24 #[.val (.int ln), .val (.int xa), .val (.int xb), .val (.int xc), .val (.int xd), .val (.int (4 : Int32)), .val (.int (own_gch xa)), .val (.int (own_gch xb)), .unset, .unset, .unset, .unset, .unset] [(.int (own_gch xc))]))) (st77) ?_
  refine go_of (B := (T77.setTop (mkF m 28 #[.val (.int ln), .val (.int xa), .val (.int xb), .val (.int xc), .val (.int xd), .val (.int (4 : Int32)), .val (.int (own_gch xa)), .val (.int (own_gch xb)), .val (.int (own_gch xc)), .unset, .unset, .unset, .unset] [(.int xd)]))) (fun _ kk => XS.istore X77.here hx rfl (hb hby at_24) rfl rfl (XS.iload X77.here hx rfl (hb hby at_26) rfl kk)) ?_
  obtain ⟨_, _, ⟨T78, L78, k78, n78⟩, -, X78, ⟨Lc78, hQ78, l78, y78, z78⟩, st78⟩ := Jvm.LawKit.callS X77 hx (y := MN1) hown (mvT hZ (wd 1 rfl)) (mvT hZ (wd 2 rfl)) (mvT hZ (wd 3 rfl)) (mvT hZ (wd 4 rfl)) (by decide) (backOf (W := 0) (gch l Z a0 hw [] xd h0 n0 (by omega)) hZ (wd 4 rfl) (wd 3 rfl) (by decide) (by decide)) (g := (mkF m 28 #[.val (.int ln), .val (.int xa), .val (.int xb), .val (.int xc), .val (.int xd), .val (.int (4 : Int32)), .val (.int (own_gch xa)), .val (.int (own_gch xb)), .val (.int (own_gch xc)), .unset, .unset, .unset, .unset] [(.int xd)])) rfl (by rw [hml]; rfl) (argsL := [(.int xd)]) (rest := []) (lenOf pd__I_C rfl) rfl (Nat.le_of_eq rfl) (hb hby at_28) (fun _ _ => ⟨rfl, e77, (by decide : 0 + 0 ≤ _), (by decide : 0 + 0 ≤ _)⟩)
  dsimp only [Pt.U, Pt.locs, Pt.cells, Pt.slots] at X78 l78 y78 z78 st78 hQ78
  subst l78 y78 z78
  obtain ⟨rfl, N78q, e78⟩ := hQ78
  have N78 := Fr.app N77 N78q
  refine go_of (B := (T78.setTop (mkF m 31 #[.val (.int ln), .val (.int xa), .val (.int xb), .val (.int xc), .val (.int xd), .val (.int (4 : Int32)), .val (.int (own_gch xa)), .val (.int (own_gch xb)), .val (.int (own_gch xc)), .unset, .unset, .unset, .unset] [(.int (own_gch xd))]))) (st78) ?_
  refine go_of (B := (T78.setTop (mkF m 65 #[.val (.int ln), .val (.int xa), .val (.int xb), .val (.int xc), .val (.int xd), .val (.int (4 : Int32)), .val (.int (own_gch xa)), .val (.int (own_gch xb)), .val (.int (own_gch xc)), .val (.int (own_gch xd)), .unset, .unset, .unset] []))) (fun _ kk => XS.istore X78.here hx rfl (hb hby at_31) rfl rfl (XS.iload X78.here hx rfl (hb hby at_33) rfl (XS.ifYes X78.here hx rfl (pc0 := 35) (pc' := 46) rfl (hb hby at_35) rfl ((if0 _ _).trans (feq (by decide : ¬ ((4 : Int32) = (0 : Int32)))).2) (by decide) (by decide) (XS.iload X78.here hx rfl (hb hby at_46) rfl (XS.iconst X78.here hx rfl (hb hby at_48) (XS.icmpYes X78.here hx rfl (pc0 := 49) (pc' := 65) rfl (hb hby at_49) rfl (feq (by decide : ¬ ((4 : Int32) = (1 : Int32)))).2 (by decide) (by decide) kk)))))) ?_
  refine go_of (B := (T78.setTop (mkF m 118 #[.val (.int ln), .val (.int xa), .val (.int xb), .val (.int xc), .val (.int xd), .val (.int (4 : Int32)), .val (.int (own_gch xa)), .val (.int (own_gch xb)), .val (.int (own_gch xc)), .val (.int (own_gch xd)), .unset, .unset, .unset] []))) (fun _ kk => XS.iload X78.here hx rfl (hb hby at_65) rfl (XS.iconst X78.here hx rfl (hb hby at_67) (XS.icmpYes X78.here hx rfl (pc0 := 68) (pc' := 89) rfl (hb hby at_68) rfl (feq (by decide : ¬ ((4 : Int32) = (2 : Int32)))).2 (by decide) (by decide) (XS.iload X78.here hx rfl (hb hby at_89) rfl (XS.iconst X78.here hx rfl (hb hby at_91) (XS.icmpYes X78.here hx rfl (pc0 := 92) (pc' := 118) rfl (hb hby at_92) rfl (feq (by decide : ¬ ((4 : Int32) = (3 : Int32)))).2 (by decide) (by decide) kk)))))) ?_
  refine go_of (B := (T78.setTop (mkF m 119 #[.val (.int ln), .val (.int xa), .val (.int xb), .val (.int xc), .val (.int xd), .val (.int (4 : Int32)), .val (.int (own_gch xa)), .val (.int (own_gch xb)), .val (.int (own_gch xc)), .val (.int (own_gch xd)), .unset, .unset, .unset] [(.int (4 : Int32))]))) (fun _ kk => XS.iconst X78.here hx rfl (hb hby at_118) kk) ?_
  obtain ⟨T79, h79, k79, X79, e79, E79, A79, st79⟩ := newP X78 hx hZ (wd 6 rfl) e78 (g := (mkF m 119 #[.val (.int ln), .val (.int xa), .val (.int xb), .val (.int xc), .val (.int xd), .val (.int (4 : Int32)), .val (.int (own_gch xa)), .val (.int (own_gch xb)), .val (.int (own_gch xc)), .val (.int (own_gch xd)), .unset, .unset, .unset] [(.int (4 : Int32))])) rfl (hb hby at_119) rfl (by decide) (cap := 4) (by decide) (by decide) (by decide) (by decide)
  obtain ⟨b79, g79⟩ : ∃ z, z = h0.size := ⟨_, rfl⟩
  rw [← g79] at A79 st79
  have hi79 := own_nlt A79.lt
  have sz79 := E79.1
  have HC79 := HC0.trans (CHr.ext E79 HC0.1)
  have V79 : Arv Z h79 b79 k79 .char (4 : Int32) [(.int (0 : Int32)), (.int (0 : Int32)), (.int (0 : Int32)), (.int (0 : Int32))] (.int (0 : Int32)) := (Arv.new A79 (by decide)).pad (pad_rep [] (.int (0 : Int32)) 4)
  refine go_of (B := (T79.setTop (mkF m 121 #[.val (.int ln), .val (.int xa), .val (.int xb), .val (.int xc), .val (.int xd), .val (.int (4 : Int32)), .val (.int (own_gch xa)), .val (.int (own_gch xb)), .val (.int (own_gch xc)), .val (.int (own_gch xd)), .unset, .unset, .unset] [(.ref b79)]))) (st79) ?_
  refine go_of (B := (T79.setTop (mkF m 125 #[.val (.int ln), .val (.int xa), .val (.int xb), .val (.int xc), .val (.int xd), .val (.int (4 : Int32)), .val (.int (own_gch xa)), .val (.int (own_gch xb)), .val (.int (own_gch xc)), .val (.int (own_gch xd)), .unset, .unset, .unset] [(.int (own_gch xa)), (.int (0 : Int32)), (.ref b79), (.ref b79)]))) (fun _ kk => XS.dup X79.here hx rfl (hb hby at_121) rfl rfl (XS.iconst X79.here hx rfl (hb hby at_122) (XS.iload X79.here hx rfl (hb hby at_123) rfl kk))) ?_
  obtain ⟨cl80, Ar80, q80, Sz80, Nn80, Hh80, G80⟩ := id (V79)
  obtain ⟨T81, h81, X81, e81, W81, st81⟩ := stC X79 hx hZ e79 Ar80 (j := (0 : Int32)) (inb_of Sz80 ⟨by decide, by decide⟩) (g := (mkF m 125 #[.val (.int ln), .val (.int xa), .val (.int xb), .val (.int xc), .val (.int xd), .val (.int (4 : Int32)), .val (.int (own_gch xa)), .val (.int (own_gch xb)), .val (.int (own_gch xc)), .val (.int (own_gch xd)), .unset, .unset, .unset] [(.int (own_gch xa)), (.int (0 : Int32)), (.ref b79), (.ref b79)])) rfl rfl (hb hby at_125)
  have sz81 := W81.size
  have N81 := Fr.snoc X81 N78 ((by first | omega | exact own_ne (by omega) | exact own_le (by omega)) : n0 ≤ b79)
  have V81 : Arv Z h81 b79 k79 .char (4 : Int32) [(.int (nar .char (own_gch xa))), (.int (0 : Int32)), (.int (0 : Int32)), (.int (0 : Int32))] (.int (0 : Int32)) := Arv.set Ar80 q80 Sz80 Nn80 Hh80 G80 (fits_nar_char _) W81 0 rfl (Nat.le_of_ble_eq_true rfl)
  rw [own_narc16 (own_gchr xa)] at V81
  have SF81 := (own_safe_arv hZ.alike V79 (by decide) : (Safe Z own_EL _ h79 b79))
  have HC81 := HC79.trans (CHr.wr W81 SF81 HC79.1)
  refine go_of (B := (T81.setTop (mkF m 126 #[.val (.int ln), .val (.int xa), .val (.int xb), .val (.int xc), .val (.int xd), .val (.int (4 : Int32)), .val (.int (own_gch xa)), .val (.int (own_gch xb)), .val (.int (own_gch xc)), .val (.int (own_gch xd)), .unset, .unset, .unset] [(.ref b79)]))) (st81) ?_
  refine go_of (B := (T81.setTop (mkF m 130 #[.val (.int ln), .val (.int xa), .val (.int xb), .val (.int xc), .val (.int xd), .val (.int (4 : Int32)), .val (.int (own_gch xa)), .val (.int (own_gch xb)), .val (.int (own_gch xc)), .val (.int (own_gch xd)), .unset, .unset, .unset] [(.int (own_gch xb)), (.int (1 : Int32)), (.ref b79), (.ref b79)]))) (fun _ kk => XS.dup X81.here hx rfl (hb hby at_126) rfl rfl (XS.iconst X81.here hx rfl (hb hby at_127) (XS.iload X81.here hx rfl (hb hby at_128) rfl kk))) ?_
  obtain ⟨cl82, Ar82, q82, Sz82, Nn82, Hh82, G82⟩ := id (V81)
  obtain ⟨T83, h83, X83, e83, W83, st83⟩ := stC X81 hx hZ e81 Ar82 (j := (1 : Int32)) (inb_of Sz82 ⟨by decide, by decide⟩) (g := (mkF m 130 #[.val (.int ln), .val (.int xa), .val (.int xb), .val (.int xc), .val (.int xd), .val (.int (4 : Int32)), .val (.int (own_gch xa)), .val (.int (own_gch xb)), .val (.int (own_gch xc)), .val (.int (own_gch xd)), .unset, .unset, .unset] [(.int (own_gch xb)), (.int (1 : Int32)), (.ref b79), (.ref b79)])) rfl rfl (hb hby at_130)
  have sz83 := W83.size
  have N83 := Fr.snoc X83 N81 ((by first | omega | exact own_ne (by omega) | exact own_le (by omega)) : n0 ≤ b79)
  have V83 : Arv Z h83 b79 k79 .char (4 : Int32) [(.int (own_gch xa)), (.int (nar .char (own_gch xb))), (.int (0 : Int32)), (.int (0 : Int32))] (.int (0 : Int32)) := Arv.set Ar82 q82 Sz82 Nn82 Hh82 G82 (fits_nar_char _) W83 1 rfl (Nat.le_of_ble_eq_true rfl)
  rw [own_narc16 (own_gchr xb)] at V83
  have SF83 := (own_safe_arv hZ.alike V81 (by decide) : (Safe Z own_EL _ h81 b79))
  have HC83 := HC81.trans (CHr.wr W83 SF83 HC81.1)
  refine go_of (B := (T83.setTop (mkF m 131 #[.val (.int ln), .val (.int xa), .val (.int xb), .val (.int xc), .val (.int xd), .val (.int (4 : Int32)), .val (.int (own_gch xa)), .val (.int (own_gch xb)), .val (.int (own_gch xc)), .val (.int (own_gch xd)), .unset, .unset, .unset] [(.ref b79)]))) (st83) ?_
  refine go_of (B := (T83.setTop (mkF m 135 #[.val (.int ln), .val (.int xa), .val (.int xb), .val (.int xc), .val (.int xd), .val (.int (4 : Int32)), .val (.int (own_gch xa)), .val (.int (own_gch xb)), .val (.int (own_gch xc)), .val (.int (own_gch xd)), .unset, .unset, .unset] [(.int (own_gch xc)), (.int (2 : Int32)), (.ref b79), (.ref b79)]))) (fun _ kk => XS.dup X83.here hx rfl (hb hby at_131) rfl rfl (XS.iconst X83.here hx rfl (hb hby at_132) (XS.iload X83.here hx rfl (hb hby at_133) rfl kk))) ?_
  obtain ⟨cl84, Ar84, q84, Sz84, Nn84, Hh84, G84⟩ := id (V83)
  obtain ⟨T85, h85, X85, e85, W85, st85⟩ := stC X83 hx hZ e83 Ar84 (j := (2 : Int32)) (inb_of Sz84 ⟨by decide, by decide⟩) (g := (mkF m 135 #[.val (.int ln), .val (.int xa), .val (.int xb), .val (.int xc), .val (.int xd), .val (.int (4 : Int32)), .val (.int (own_gch xa)), .val (.int (own_gch xb)), .val (.int (own_gch xc)), .val (.int (own_gch xd)), .unset, .unset, .unset] [(.int (own_gch xc)), (.int (2 : Int32)), (.ref b79), (.ref b79)])) rfl rfl (hb hby at_135)
  have sz85 := W85.size
  have N85 := Fr.snoc X85 N83 ((by first | omega | exact own_ne (by omega) | exact own_le (by omega)) : n0 ≤ b79)
  have V85 : Arv Z h85 b79 k79 .char (4 : Int32) [(.int (own_gch xa)), (.int (own_gch xb)), (.int (nar .char (own_gch xc))), (.int (0 : Int32))] (.int (0 : Int32)) := Arv.set Ar84 q84 Sz84 Nn84 Hh84 G84 (fits_nar_char _) W85 2 rfl (Nat.le_of_ble_eq_true rfl)
  rw [own_narc16 (own_gchr xc)] at V85
  have SF85 := (own_safe_arv hZ.alike V83 (by decide) : (Safe Z own_EL _ h83 b79))
  have HC85 := HC83.trans (CHr.wr W85 SF85 HC83.1)
  refine go_of (B := (T85.setTop (mkF m 136 #[.val (.int ln), .val (.int xa), .val (.int xb), .val (.int xc), .val (.int xd), .val (.int (4 : Int32)), .val (.int (own_gch xa)), .val (.int (own_gch xb)), .val (.int (own_gch xc)), .val (.int (own_gch xd)), .unset, .unset, .unset] [(.ref b79)]))) (st85) ?_
  refine go_of (B := (T85.setTop (mkF m 140 #[.val (.int ln), .val (.int xa), .val (.int xb), .val (.int xc), .val (.int xd), .val (.int (4 : Int32)), .val (.int (own_gch xa)), .val (.int (own_gch xb)), .val (.int (own_gch xc)), .val (.int (own_gch xd)), .unset, .unset, .unset] [(.int (own_gch xd)), (.int (3 : Int32)), (.ref b79), (.ref b79)]))) (fun _ kk => XS.dup X85.here hx rfl (hb hby at_136) rfl rfl (XS.iconst X85.here hx rfl (hb hby at_137) (XS.iload X85.here hx rfl (hb hby at_138) rfl kk))) ?_
  obtain ⟨cl86, Ar86, q86, Sz86, Nn86, Hh86, G86⟩ := id (V85)
  obtain ⟨T87, h87, X87, e87, W87, st87⟩ := stC X85 hx hZ e85 Ar86 (j := (3 : Int32)) (inb_of Sz86 ⟨by decide, by decide⟩) (g := (mkF m 140 #[.val (.int ln), .val (.int xa), .val (.int xb), .val (.int xc), .val (.int xd), .val (.int (4 : Int32)), .val (.int (own_gch xa)), .val (.int (own_gch xb)), .val (.int (own_gch xc)), .val (.int (own_gch xd)), .unset, .unset, .unset] [(.int (own_gch xd)), (.int (3 : Int32)), (.ref b79), (.ref b79)])) rfl rfl (hb hby at_140)
  have sz87 := W87.size
  have N87 := Fr.snoc X87 N85 ((by first | omega | exact own_ne (by omega) | exact own_le (by omega)) : n0 ≤ b79)
  have V87 : Arv Z h87 b79 k79 .char (4 : Int32) [(.int (own_gch xa)), (.int (own_gch xb)), (.int (own_gch xc)), (.int (nar .char (own_gch xd)))] (.int (0 : Int32)) := Arv.set Ar86 q86 Sz86 Nn86 Hh86 G86 (fits_nar_char _) W87 3 rfl (Nat.le_of_ble_eq_true rfl)
  rw [own_narc16 (own_gchr xd)] at V87
  have SF87 := (own_safe_arv hZ.alike V85 (by decide) : (Safe Z own_EL _ h85 b79))
  have HC87 := HC85.trans (CHr.wr W87 SF87 HC85.1)
  refine go_of (B := (T87.setTop (mkF m 141 #[.val (.int ln), .val (.int xa), .val (.int xb), .val (.int xc), .val (.int xd), .val (.int (4 : Int32)), .val (.int (own_gch xa)), .val (.int (own_gch xb)), .val (.int (own_gch xc)), .val (.int (own_gch xd)), .unset, .unset, .unset] [(.ref b79)]))) (st87) ?_
  refine go_of (B := (T87.setTop (mkF m 143 #[.val (.int ln), .val (.int xa), .val (.int xb), .val (.int xc), .val (.int xd), .val (.int (4 : Int32)), .val (.int (own_gch xa)), .val (.int (own_gch xb)), .val (.int (own_gch xc)), .val (.int (own_gch xd)), .val (.ref b79), .unset, .unset] []))) (fun _ kk => XS.astore X87.here hx rfl (hb hby at_141) rfl rfl rfl kk) ?_
  have HJ88 : ∀ (Tj88 : State) (Lj88 : List Loc), Stand p l e room_1 (s.setVm s.vm) m args below meth c Tj88 Lj88 1 4 → Tj88.heap = h87 → Fr n0 Lj88 → ∀ (xh xe : Int32), xe = own_lit [(own_gch xa), (own_gch xb), (own_gch xc), (own_gch xd)] → Go p e below (Tj88.setTop (mkF m 217 #[.val (.int ln), .val (.int xa), .val (.int xb), .val (.int xc), .val (.int xd), .val (.int (4 : Int32)), .val (.int (own_gch xa)), .val (.int (own_gch xb)), .val (.int (own_gch xc)), .val (.int (own_gch xd)), .val (.ref b79), .val (.int xh), .val (.int xe)] [])) (fun oo' U2' => ∃ vv' LL', oo' = .returned vv' ∧ (Q_rm0 Z ln xa xb xc xd gC gF h0 n0) vv' U2'.heap LL' ∧ CHr Z own_EL s.vm s.heap U2'.vm U2'.heap ∧ ReturnedEndW s oo' U2' LL' room_1.cells room_1.slots) := by
    intro Tj88 Lj88 Xj88 ej88 Nj88 xh xe hjHJ88
    obtain ⟨T89, h89, X89, e89, E89, A89, D89, -, st89⟩ := newO Xj88 hx hZ hown (wd 7 rfl) (wd 8 rfl) (wd 9 rfl) ej88 (g := (mkF m 217 #[.val (.int ln), .val (.int xa), .val (.int xb), .val (.int xc), .val (.int xd), .val (.int (4 : Int32)), .val (.int (own_gch xa)), .val (.int (own_gch xb)), .val (.int (own_gch xc)), .val (.int (own_gch xd)), .val (.ref b79), .val (.int xh), .val (.int xe)] [])) rfl (hb hby at_217) (by decide) (by decide)
    obtain ⟨b89, g89⟩ : ∃ z, z = h87.size := ⟨_, rfl⟩
    rw [← g89] at A89 D89 st89
    have hi89 := own_nlt A89.lt
    have sz89 := E89.1
    have HC89 := HC87.trans (CHr.ext E89 HC87.1)
    have F89_value : Fld Z h89 b89 "java/lang/String" "value" "[B" .null := D89 (Or.inr (wd 22 rfl)) (ty := (.array .byte)) (by decide)
    have F89_coder : Fld Z h89 b89 "java/lang/String" "coder" "B" (.int (0 : Int32)) := D89 (Or.inr (wd 23 rfl)) (ty := .byte) (by decide)
    refine go_of (B := (T89.setTop (mkF m 220 #[.val (.int ln), .val (.int xa), .val (.int xb), .val (.int xc), .val (.int xd), .val (.int (4 : Int32)), .val (.int (own_gch xa)), .val (.int (own_gch xb)), .val (.int (own_gch xc)), .val (.int (own_gch xd)), .val (.ref b79), .val (.int xh), .val (.int xe)] [(.ref b89)]))) (st89) ?_
    refine go_of (B := (T89.setTop (mkF m 223 #[.val (.int ln), .val (.int xa), .val (.int xb), .val (.int xc), .val (.int xd), .val (.int (4 : Int32)), .val (.int (own_gch xa)), .val (.int (own_gch xb)), .val (.int (own_gch xc)), .val (.int (own_gch xd)), .val (.ref b79), .val (.int xh), .val (.int xe)] [(.ref b79), (.ref b89), (.ref b89)]))) (fun _ kk => XS.dup X89.here hx rfl (hb hby at_220) rfl rfl (XS.aload X89.here hx rfl (hb hby at_221) rfl rfl kk)) ?_
    have sf_90 := (own_safe_null hZ.alike A89 F89_value : (Safe Z own_EL _ h89 b89))
    have cf_91 := ((((((O.ext E79).wr W81 (by first | omega | exact own_ne (by omega) | exact own_le (by omega))).wr W83 (by first | omega | exact own_ne (by omega) | exact own_le (by omega))).wr W85 (by first | omega | exact own_ne (by omega) | exact own_le (by omega))).wr W87 (by first | omega | exact own_ne (by omega) | exact own_le (by omega))).ext E89)
    have cf_92 := (V87.ext E89)
    obtain ⟨_, _, ⟨T93, L93, k93, n93⟩, -, X93, ⟨Lc93, hQ93, l93, y93, z93⟩, st93⟩ := X89.specialBack hx (y := MN5) rfl hown (mvT hZ (wd 10 rfl)) (mvT hZ (wd 11 rfl)) (mvT hZ (wd 12 rfl)) (by decide) (backOf (W := 1) (u_i1_4 l Z a0 hw [] b89 b79 (own_gch xa) (own_gch xb) (own_gch xc) (own_gch xd) k79 gC _ _ h89 n0 (by omega) cf_91 SC hgC SU A89 F89_value F89_coder (by first | omega | exact own_ne (by omega) | exact own_le (by omega)) cf_92 (own_gchr xa) (own_gchr xb) (own_gchr xc) (own_gchr xd)) hZ (wd 12 rfl) (wd 9 rfl) (by decide) (by decide)) (g := (mkF m 223 #[.val (.int ln), .val (.int xa), .val (.int xb), .val (.int xc), .val (.int xd), .val (.int (4 : Int32)), .val (.int (own_gch xa)), .val (.int (own_gch xb)), .val (.int (own_gch xc)), .val (.int (own_gch xd)), .val (.ref b79), .val (.int xh), .val (.int xe)] [(.ref b79), (.ref b89), (.ref b89)])) rfl (by rw [hml]; rfl) (Steps.refl _) (a := b89) (argsL := [(.ref b79)]) (rest := [(.ref b89)]) (lenOf pd___C_V rfl) rfl (Nat.le_of_eq rfl) (hb hby at_223) (fun _ _ => ⟨rfl, e89, (by decide : 2 + 2 ≤ _), (by decide : 8 + 12 ≤ _)⟩)
    dsimp only [Pt.U, Pt.locs, Pt.cells, Pt.slots] at X93 l93 y93 z93 st93 hQ93
    subst l93 y93 z93
    obtain ⟨rfl, N93q, K93, S93⟩ := hQ93
    have N93 := Fr.app Nj88 N93q
    have sz93 := K93.1
    have SK93 : ∀ x ∈ [b89], Safe Z own_EL _ h89 x := (allS sf_90 all0)
    have HC93 := HC89.trans (CHr.keep K93 SK93 HC89.1)
    refine go_tr (B := (T93.setTop (mkF m 226 #[.val (.int ln), .val (.int xa), .val (.int xb), .val (.int xc), .val (.int xd), .val (.int (4 : Int32)), .val (.int (own_gch xa)), .val (.int (own_gch xb)), .val (.int (own_gch xc)), .val (.int (own_gch xd)), .val (.ref b79), .val (.int xh), .val (.int xe)] [(.ref b89)]))) (st93) ?_
    have cf_94 := (cf_91.keep K93 (allS (by first | omega | exact own_ne (by omega) | exact own_le (by omega)) all0))
    obtain ⟨_, _, ⟨T95, L95, k95, n95⟩, -, X95, ⟨Lc95, hQ95, l95, y95, z95⟩, st95⟩ := Jvm.LawKit.callS X93 hx (y := MN0) hown (mvT hZ (wd 28 rfl)) (mvT hZ (wd 29 rfl)) (mvT hZ (wd 30 rfl)) (mvT hZ (wd 31 rfl)) (by decide) (backOf (W := 0) (isl_4 l Z a0 hw [] b89 (own_gch xa) (own_gch xb) (own_gch xc) (own_gch xd) gC gF T93.heap n0 (by omega) cf_94 SC hgC S93 SU SF rgF) hZ (wd 31 rfl) (wd 30 rfl) (by decide) (by decide)) (g := (mkF m 226 #[.val (.int ln), .val (.int xa), .val (.int xb), .val (.int xc), .val (.int xd), .val (.int (4 : Int32)), .val (.int (own_gch xa)), .val (.int (own_gch xb)), .val (.int (own_gch xc)), .val (.int (own_gch xd)), .val (.ref b79), .val (.int xh), .val (.int xe)] [(.ref b89)])) rfl (by rw [hml]; rfl) (argsL := [(.ref b89)]) (rest := []) (lenOf pd__Ljava_lang_String__Z rfl) rfl (Nat.le_of_eq rfl) (hb hby at_226) (fun _ _ => ⟨rfl, rfl, (by decide : 4 + 0 ≤ _), (by decide : 20 + 0 ≤ _)⟩)
    dsimp only [Pt.U, Pt.locs, Pt.cells, Pt.slots] at X95 l95 y95 z95 st95 hQ95
    subst l95 y95 z95
    obtain ⟨rfl, N95q, e95⟩ := hQ95
    have N95 := Fr.app N93 N95q
    refine go_of (B := (T95.setTop (mkF m 229 #[.val (.int ln), .val (.int xa), .val (.int xb), .val (.int xc), .val (.int xd), .val (.int (4 : Int32)), .val (.int (own_gch xa)), .val (.int (own_gch xb)), .val (.int (own_gch xc)), .val (.int (own_gch xd)), .val (.ref b79), .val (.int xh), .val (.int xe)] [(.int (own_lit [(own_gch xa), (own_gch xb), (own_gch xc), (own_gch xd)]))]))) (st95) ?_
    refine go_of (B := (T95.setTop (mkF m 239 #[.val (.int ln), .val (.int xa), .val (.int xb), .val (.int xc), .val (.int xd), .val (.int (4 : Int32)), .val (.int (own_gch xa)), .val (.int (own_gch xb)), .val (.int (own_gch xc)), .val (.int (own_gch xd)), .val (.ref b79), .val (.int xh), .val (.int xe)] [(.int (1 : Int32))]))) (fun _ kk => XS.iload X95.here hx rfl (hb hby at_229) rfl (XS.icmpNo X95.here hx rfl (hb hby at_231) rfl (teq hjHJ88.symm).2 (XS.iconst X95.here hx rfl (hb hby at_234) (XS.goto X95.here hx rfl (pc0 := 235) (pc' := 239) rfl (hb hby at_235) (by decide) (by decide) kk)))) ?_
    refine go_endH X95 hZ hEL HC93 hh0 e95 hS (by rw [e95]; omega) (v := some (.int (nar .boolean (1 : Int32)))) (fun h => by rw [hret] at h; cases h) hlk (by decide) (by decide) (Q := (Q_rm0 Z ln xa xb xc xd gC gF h0 n0)) ?_ (fun fs hr => retN X95 hx (t := .boolean) hret (by simp) (hb hby at_239) hr)
    unfold Q_rm0
    try rw [e95]
    exact ⟨rfl, N95⟩
  refine go_of (B := (T87.setTop (mkF m 150 #[.val (.int ln), .val (.int xa), .val (.int xb), .val (.int xc), .val (.int xd), .val (.int (4 : Int32)), .val (.int (own_gch xa)), .val (.int (own_gch xb)), .val (.int (own_gch xc)), .val (.int (own_gch xd)), .val (.ref b79), .unset, .unset] [(.int (own_gch xa))]))) (fun _ kk => XS.iload X87.here hx rfl (hb hby at_143) rfl (XS.ifNo X87.here hx rfl (hb hby at_145) rfl ((if0 _ _).trans (tlt (by decide : (0 : Int32) < (4 : Int32))).2.2.2) (XS.iload X87.here hx rfl (hb hby at_148) rfl kk))) ?_
  obtain ⟨_, _, ⟨T96, L96, k96, n96⟩, -, X96, ⟨Lc96, hQ96, l96, y96, z96⟩, st96⟩ := Jvm.LawKit.callS X87 hx (y := MN2) hown (mvT hZ (wd 72 rfl)) (mvT hZ (wd 73 rfl)) (mvT hZ (wd 3 rfl)) (mvT hZ (wd 74 rfl)) (by decide) (backOf (W := 0) (wld l Z a0 hw [] (own_gch xa) h87 n0 (by omega)) hZ (wd 74 rfl) (wd 3 rfl) (by decide) (by decide)) (g := (mkF m 150 #[.val (.int ln), .val (.int xa), .val (.int xb), .val (.int xc), .val (.int xd), .val (.int (4 : Int32)), .val (.int (own_gch xa)), .val (.int (own_gch xb)), .val (.int (own_gch xc)), .val (.int (own_gch xd)), .val (.ref b79), .unset, .unset] [(.int (own_gch xa))])) rfl (by rw [hml]; rfl) (argsL := [(.int (own_gch xa))]) (rest := []) (lenOf pd__C_Z rfl) rfl (Nat.le_of_eq rfl) (hb hby at_150) (fun _ _ => ⟨rfl, e87, (by decide : 1 + 0 ≤ _), (by decide : 4 + 0 ≤ _)⟩)
  dsimp only [Pt.U, Pt.locs, Pt.cells, Pt.slots] at X96 l96 y96 z96 st96 hQ96
  subst l96 y96 z96
  obtain ⟨rfl, N96q, e96⟩ := hQ96
  have N96 := Fr.app N87 N96q
  refine go_of (B := (T96.setTop (mkF m 153 #[.val (.int ln), .val (.int xa), .val (.int xb), .val (.int xc), .val (.int xd), .val (.int (4 : Int32)), .val (.int (own_gch xa)), .val (.int (own_gch xb)), .val (.int (own_gch xc)), .val (.int (own_gch xd)), .val (.ref b79), .unset, .unset] [(.int (own_wl (own_gch xa)))]))) (st96) ?_
  by_cases hcc97 : (own_wl (own_gch xa)) = (0 : Int32)
  · refine go_of (B := (T96.setTop (mkF m 164 #[.val (.int ln), .val (.int xa), .val (.int xb), .val (.int xc), .val (.int xd), .val (.int (4 : Int32)), .val (.int (own_gch xa)), .val (.int (own_gch xb)), .val (.int (own_gch xc)), .val (.int (own_gch xd)), .val (.ref b79), .unset, .unset] [(.int (own_gch xb))]))) (fun _ kk => XS.ifNo X96.here hx rfl (hb hby at_153) rfl ((if0 _ _).trans (teq hcc97).2) (XS.iload X96.here hx rfl (hb hby at_156) rfl (XS.iconst X96.here hx rfl (hb hby at_158) (XS.icmpNo X96.here hx rfl (hb hby at_159) rfl (tlt (by decide : (1 : Int32) < (4 : Int32))).2.2.2 (XS.iload X96.here hx rfl (hb hby at_162) rfl kk))))) ?_
    obtain ⟨_, _, ⟨T98, L98, k98, n98⟩, -, X98, ⟨Lc98, hQ98, l98, y98, z98⟩, st98⟩ := Jvm.LawKit.callS X96 hx (y := MN2) hown (mvT hZ (wd 72 rfl)) (mvT hZ (wd 73 rfl)) (mvT hZ (wd 3 rfl)) (mvT hZ (wd 74 rfl)) (by decide) (backOf (W := 0) (wld l Z a0 hw [] (own_gch xb) h87 n0 (by omega)) hZ (wd 74 rfl) (wd 3 rfl) (by decide) (by decide)) (g := (mkF m 164 #[.val (.int ln), .val (.int xa), .val (.int xb), .val (.int xc), .val (.int xd), .val (.int (4 : Int32)), .val (.int (own_gch xa)), .val (.int (own_gch xb)), .val (.int (own_gch xc)), .val (.int (own_gch xd)), .val (.ref b79), .unset, .unset] [(.int (own_gch xb))])) rfl (by rw [hml]; rfl) (argsL := [(.int (own_gch xb))]) (rest := []) (lenOf pd__C_Z rfl) rfl (Nat.le_of_eq rfl) (hb hby at_164) (fun _ _ => ⟨rfl, e96, (by decide : 1 + 0 ≤ _), (by decide : 4 + 0 ≤ _)⟩)
    dsimp only [Pt.U, Pt.locs, Pt.cells, Pt.slots] at X98 l98 y98 z98 st98 hQ98
    subst l98 y98 z98
    obtain ⟨rfl, N98q, e98⟩ := hQ98
    have N98 := Fr.app N96 N98q
    refine go_of (B := (T98.setTop (mkF m 167 #[.val (.int ln), .val (.int xa), .val (.int xb), .val (.int xc), .val (.int xd), .val (.int (4 : Int32)), .val (.int (own_gch xa)), .val (.int (own_gch xb)), .val (.int (own_gch xc)), .val (.int (own_gch xd)), .val (.ref b79), .unset, .unset] [(.int (own_wl (own_gch xb)))]))) (st98) ?_
    by_cases hcc99 : (own_wl (own_gch xb)) = (0 : Int32)
    · refine go_of (B := (T98.setTop (mkF m 178 #[.val (.int ln), .val (.int xa), .val (.int xb), .val (.int xc), .val (.int xd), .val (.int (4 : Int32)), .val (.int (own_gch xa)), .val (.int (own_gch xb)), .val (.int (own_gch xc)), .val (.int (own_gch xd)), .val (.ref b79), .unset, .unset] [(.int (own_gch xc))]))) (fun _ kk => XS.ifNo X98.here hx rfl (hb hby at_167) rfl ((if0 _ _).trans (teq hcc99).2) (XS.iload X98.here hx rfl (hb hby at_170) rfl (XS.iconst X98.here hx rfl (hb hby at_172) (XS.icmpNo X98.here hx rfl (hb hby at_173) rfl (tlt (by decide : (2 : Int32) < (4 : Int32))).2.2.2 (XS.iload X98.here hx rfl (hb hby at_176) rfl kk))))) ?_
      obtain ⟨_, _, ⟨T100, L100, k100, n100⟩, -, X100, ⟨Lc100, hQ100, l100, y100, z100⟩, st100⟩ := Jvm.LawKit.callS X98 hx (y := MN2) hown (mvT hZ (wd 72 rfl)) (mvT hZ (wd 73 rfl)) (mvT hZ (wd 3 rfl)) (mvT hZ (wd 74 rfl)) (by decide) (backOf (W := 0) (wld l Z a0 hw [] (own_gch xc) h87 n0 (by omega)) hZ (wd 74 rfl) (wd 3 rfl) (by decide) (by decide)) (g := (mkF m 178 #[.val (.int ln), .val (.int xa), .val (.int xb), .val (.int xc), .val (.int xd), .val (.int (4 : Int32)), .val (.int (own_gch xa)), .val (.int (own_gch xb)), .val (.int (own_gch xc)), .val (.int (own_gch xd)), .val (.ref b79), .unset, .unset] [(.int (own_gch xc))])) rfl (by rw [hml]; rfl) (argsL := [(.int (own_gch xc))]) (rest := []) (lenOf pd__C_Z rfl) rfl (Nat.le_of_eq rfl) (hb hby at_178) (fun _ _ => ⟨rfl, e98, (by decide : 1 + 0 ≤ _), (by decide : 4 + 0 ≤ _)⟩)
      dsimp only [Pt.U, Pt.locs, Pt.cells, Pt.slots] at X100 l100 y100 z100 st100 hQ100
      subst l100 y100 z100
      obtain ⟨rfl, N100q, e100⟩ := hQ100
      have N100 := Fr.app N98 N100q
      refine go_of (B := (T100.setTop (mkF m 181 #[.val (.int ln), .val (.int xa), .val (.int xb), .val (.int xc), .val (.int xd), .val (.int (4 : Int32)), .val (.int (own_gch xa)), .val (.int (own_gch xb)), .val (.int (own_gch xc)), .val (.int (own_gch xd)), .val (.ref b79), .unset, .unset] [(.int (own_wl (own_gch xc)))]))) (st100) ?_
      by_cases hcc101 : (own_wl (own_gch xc)) = (0 : Int32)
      · refine go_of (B := (T100.setTop (mkF m 192 #[.val (.int ln), .val (.int xa), .val (.int xb), .val (.int xc), .val (.int xd), .val (.int (4 : Int32)), .val (.int (own_gch xa)), .val (.int (own_gch xb)), .val (.int (own_gch xc)), .val (.int (own_gch xd)), .val (.ref b79), .unset, .unset] [(.int (own_gch xd))]))) (fun _ kk => XS.ifNo X100.here hx rfl (hb hby at_181) rfl ((if0 _ _).trans (teq hcc101).2) (XS.iload X100.here hx rfl (hb hby at_184) rfl (XS.iconst X100.here hx rfl (hb hby at_186) (XS.icmpNo X100.here hx rfl (hb hby at_187) rfl (tlt (by decide : (3 : Int32) < (4 : Int32))).2.2.2 (XS.iload X100.here hx rfl (hb hby at_190) rfl kk))))) ?_
        obtain ⟨_, _, ⟨T102, L102, k102, n102⟩, -, X102, ⟨Lc102, hQ102, l102, y102, z102⟩, st102⟩ := Jvm.LawKit.callS X100 hx (y := MN2) hown (mvT hZ (wd 72 rfl)) (mvT hZ (wd 73 rfl)) (mvT hZ (wd 3 rfl)) (mvT hZ (wd 74 rfl)) (by decide) (backOf (W := 0) (wld l Z a0 hw [] (own_gch xd) h87 n0 (by omega)) hZ (wd 74 rfl) (wd 3 rfl) (by decide) (by decide)) (g := (mkF m 192 #[.val (.int ln), .val (.int xa), .val (.int xb), .val (.int xc), .val (.int xd), .val (.int (4 : Int32)), .val (.int (own_gch xa)), .val (.int (own_gch xb)), .val (.int (own_gch xc)), .val (.int (own_gch xd)), .val (.ref b79), .unset, .unset] [(.int (own_gch xd))])) rfl (by rw [hml]; rfl) (argsL := [(.int (own_gch xd))]) (rest := []) (lenOf pd__C_Z rfl) rfl (Nat.le_of_eq rfl) (hb hby at_192) (fun _ _ => ⟨rfl, e100, (by decide : 1 + 0 ≤ _), (by decide : 4 + 0 ≤ _)⟩)
        dsimp only [Pt.U, Pt.locs, Pt.cells, Pt.slots] at X102 l102 y102 z102 st102 hQ102
        subst l102 y102 z102
        obtain ⟨rfl, N102q, e102⟩ := hQ102
        have N102 := Fr.app N100 N102q
        refine go_of (B := (T102.setTop (mkF m 195 #[.val (.int ln), .val (.int xa), .val (.int xb), .val (.int xc), .val (.int xd), .val (.int (4 : Int32)), .val (.int (own_gch xa)), .val (.int (own_gch xb)), .val (.int (own_gch xc)), .val (.int (own_gch xd)), .val (.ref b79), .unset, .unset] [(.int (own_wl (own_gch xd)))]))) (st102) ?_
        by_cases hcc103 : (own_wl (own_gch xd)) = (0 : Int32)
        · refine go_of (B := (T102.setTop (mkF m 211 #[.val (.int ln), .val (.int xa), .val (.int xb), .val (.int xc), .val (.int xd), .val (.int (4 : Int32)), .val (.int (own_gch xa)), .val (.int (own_gch xb)), .val (.int (own_gch xc)), .val (.int (own_gch xd)), .val (.ref b79), .val (.int (0 : Int32)), .unset] [(.int (1 : Int32))]))) (fun _ kk => XS.ifYes X102.here hx rfl (pc0 := 195) (pc' := 202) rfl (hb hby at_195) rfl ((if0 _ _).trans (teq hcc103).1) (by decide) (by decide) (XS.iconst X102.here hx rfl (hb hby at_202) (XS.istore X102.here hx rfl (hb hby at_203) rfl rfl (XS.iload X102.here hx rfl (hb hby at_205) rfl (XS.ifNo X102.here hx rfl (hb hby at_207) rfl ((if0 _ _).trans (teq (by decide : (0 : Int32) = (0 : Int32))).2) (XS.iconst X102.here hx rfl (hb hby at_210) kk)))))) ?_
          refine go_of (B := (T102.setTop (mkF m 217 #[.val (.int ln), .val (.int xa), .val (.int xb), .val (.int xc), .val (.int xd), .val (.int (4 : Int32)), .val (.int (own_gch xa)), .val (.int (own_gch xb)), .val (.int (own_gch xc)), .val (.int (own_gch xd)), .val (.ref b79), .val (.int (0 : Int32)), .val (.int (1 : Int32))] []))) (fun _ kk => XS.goto X102.here hx rfl (pc0 := 211) (pc' := 215) rfl (hb hby at_211) (by decide) (by decide) (XS.istore X102.here hx rfl (hb hby at_215) rfl rfl kk)) ?_
          exact HJ88 _ _ X102 e102 N102 (0 : Int32) (1 : Int32) (by rw [own_litc hcc97, own_litc hcc99, own_litc hcc101, own_litc hcc103, own_litn])
        · refine go_of (B := (T102.setTop (mkF m 214 #[.val (.int ln), .val (.int xa), .val (.int xb), .val (.int xc), .val (.int xd), .val (.int (4 : Int32)), .val (.int (own_gch xa)), .val (.int (own_gch xb)), .val (.int (own_gch xc)), .val (.int (own_gch xd)), .val (.ref b79), .val (.int (1 : Int32)), .unset] []))) (fun _ kk => XS.ifNo X102.here hx rfl (hb hby at_195) rfl ((if0 _ _).trans (feq hcc103).1) (XS.iconst X102.here hx rfl (hb hby at_198) (XS.goto X102.here hx rfl (pc0 := 199) (pc' := 203) rfl (hb hby at_199) (by decide) (by decide) (XS.istore X102.here hx rfl (hb hby at_203) rfl rfl (XS.iload X102.here hx rfl (hb hby at_205) rfl (XS.ifYes X102.here hx rfl (pc0 := 207) (pc' := 214) rfl (hb hby at_207) rfl ((if0 _ _).trans (feq (by decide : ¬ ((1 : Int32) = (0 : Int32)))).2) (by decide) (by decide) kk)))))) ?_
          refine go_of (B := (T102.setTop (mkF m 217 #[.val (.int ln), .val (.int xa), .val (.int xb), .val (.int xc), .val (.int xd), .val (.int (4 : Int32)), .val (.int (own_gch xa)), .val (.int (own_gch xb)), .val (.int (own_gch xc)), .val (.int (own_gch xd)), .val (.ref b79), .val (.int (1 : Int32)), .val (.int (0 : Int32))] []))) (fun _ kk => XS.iconst X102.here hx rfl (hb hby at_214) (XS.istore X102.here hx rfl (hb hby at_215) rfl rfl kk)) ?_
          exact HJ88 _ _ X102 e102 N102 (1 : Int32) (0 : Int32) (by rw [own_litc hcc97, own_litc hcc99, own_litc hcc101, own_litw hcc103])
      · refine go_of (B := (T100.setTop (mkF m 214 #[.val (.int ln), .val (.int xa), .val (.int xb), .val (.int xc), .val (.int xd), .val (.int (4 : Int32)), .val (.int (own_gch xa)), .val (.int (own_gch xb)), .val (.int (own_gch xc)), .val (.int (own_gch xd)), .val (.ref b79), .val (.int (1 : Int32)), .unset] []))) (fun _ kk => XS.ifYes X100.here hx rfl (pc0 := 181) (pc' := 198) rfl (hb hby at_181) rfl ((if0 _ _).trans (feq hcc101).2) (by decide) (by decide) (XS.iconst X100.here hx rfl (hb hby at_198) (XS.goto X100.here hx rfl (pc0 := 199) (pc' := 203) rfl (hb hby at_199) (by decide) (by decide) (XS.istore X100.here hx rfl (hb hby at_203) rfl rfl (XS.iload X100.here hx rfl (hb hby at_205) rfl (XS.ifYes X100.here hx rfl (pc0 := 207) (pc' := 214) rfl (hb hby at_207) rfl ((if0 _ _).trans (feq (by decide : ¬ ((1 : Int32) = (0 : Int32)))).2) (by decide) (by decide) kk)))))) ?_
        refine go_of (B := (T100.setTop (mkF m 217 #[.val (.int ln), .val (.int xa), .val (.int xb), .val (.int xc), .val (.int xd), .val (.int (4 : Int32)), .val (.int (own_gch xa)), .val (.int (own_gch xb)), .val (.int (own_gch xc)), .val (.int (own_gch xd)), .val (.ref b79), .val (.int (1 : Int32)), .val (.int (0 : Int32))] []))) (fun _ kk => XS.iconst X100.here hx rfl (hb hby at_214) (XS.istore X100.here hx rfl (hb hby at_215) rfl rfl kk)) ?_
        exact HJ88 _ _ X100 e100 N100 (1 : Int32) (0 : Int32) (by rw [own_litc hcc97, own_litc hcc99, own_litw hcc101])
    · refine go_of (B := (T98.setTop (mkF m 214 #[.val (.int ln), .val (.int xa), .val (.int xb), .val (.int xc), .val (.int xd), .val (.int (4 : Int32)), .val (.int (own_gch xa)), .val (.int (own_gch xb)), .val (.int (own_gch xc)), .val (.int (own_gch xd)), .val (.ref b79), .val (.int (1 : Int32)), .unset] []))) (fun _ kk => XS.ifYes X98.here hx rfl (pc0 := 167) (pc' := 198) rfl (hb hby at_167) rfl ((if0 _ _).trans (feq hcc99).2) (by decide) (by decide) (XS.iconst X98.here hx rfl (hb hby at_198) (XS.goto X98.here hx rfl (pc0 := 199) (pc' := 203) rfl (hb hby at_199) (by decide) (by decide) (XS.istore X98.here hx rfl (hb hby at_203) rfl rfl (XS.iload X98.here hx rfl (hb hby at_205) rfl (XS.ifYes X98.here hx rfl (pc0 := 207) (pc' := 214) rfl (hb hby at_207) rfl ((if0 _ _).trans (feq (by decide : ¬ ((1 : Int32) = (0 : Int32)))).2) (by decide) (by decide) kk)))))) ?_
      refine go_of (B := (T98.setTop (mkF m 217 #[.val (.int ln), .val (.int xa), .val (.int xb), .val (.int xc), .val (.int xd), .val (.int (4 : Int32)), .val (.int (own_gch xa)), .val (.int (own_gch xb)), .val (.int (own_gch xc)), .val (.int (own_gch xd)), .val (.ref b79), .val (.int (1 : Int32)), .val (.int (0 : Int32))] []))) (fun _ kk => XS.iconst X98.here hx rfl (hb hby at_214) (XS.istore X98.here hx rfl (hb hby at_215) rfl rfl kk)) ?_
      exact HJ88 _ _ X98 e98 N98 (1 : Int32) (0 : Int32) (by rw [own_litc hcc97, own_litw hcc99])
  · refine go_of (B := (T96.setTop (mkF m 214 #[.val (.int ln), .val (.int xa), .val (.int xb), .val (.int xc), .val (.int xd), .val (.int (4 : Int32)), .val (.int (own_gch xa)), .val (.int (own_gch xb)), .val (.int (own_gch xc)), .val (.int (own_gch xd)), .val (.ref b79), .val (.int (1 : Int32)), .unset] []))) (fun _ kk => XS.ifYes X96.here hx rfl (pc0 := 153) (pc' := 198) rfl (hb hby at_153) rfl ((if0 _ _).trans (feq hcc97).2) (by decide) (by decide) (XS.iconst X96.here hx rfl (hb hby at_198) (XS.goto X96.here hx rfl (pc0 := 199) (pc' := 203) rfl (hb hby at_199) (by decide) (by decide) (XS.istore X96.here hx rfl (hb hby at_203) rfl rfl (XS.iload X96.here hx rfl (hb hby at_205) rfl (XS.ifYes X96.here hx rfl (pc0 := 207) (pc' := 214) rfl (hb hby at_207) rfl ((if0 _ _).trans (feq (by decide : ¬ ((1 : Int32) = (0 : Int32)))).2) (by decide) (by decide) kk)))))) ?_
    refine go_of (B := (T96.setTop (mkF m 217 #[.val (.int ln), .val (.int xa), .val (.int xb), .val (.int xc), .val (.int xd), .val (.int (4 : Int32)), .val (.int (own_gch xa)), .val (.int (own_gch xb)), .val (.int (own_gch xc)), .val (.int (own_gch xd)), .val (.ref b79), .val (.int (1 : Int32)), .val (.int (0 : Int32))] []))) (fun _ kk => XS.iconst X96.here hx rfl (hb hby at_214) (XS.istore X96.here hx rfl (hb hby at_215) rfl rfl kk)) ?_
    exact HJ88 _ _ X96 e96 N96 (1 : Int32) (0 : Int32) (by rw [own_litw hcc97])
theorem ef_rm0 (m : MethodId) (ln : Int32) (xa : Int32) (xb : Int32) (xc : Int32) (xd : Int32)  : entryFrame m #[(.int ln), (.int xa), (.int xb), (.int xc), (.int xd)] maxLocals = mkF m 0 #[.val (.int ln), .val (.int xa), .val (.int xb), .val (.int xc), .val (.int xd), .unset, .unset, .unset, .unset, .unset, .unset, .unset, .unset] [] := by first | (simp [entryFrame, mkF, argsToLocals, Value.category, maxLocals]; done) | rfl
theorem rm0 (l : Launch) (Z : State) (a0 : Array Value) (hw : TW a0 Z) (ws : List Cond) (ln : Int32) (xa : Int32) (xb : Int32) (xc : Int32) (xd : Int32) (gC : Int32) (gF : Value) (h0 : Heap) (n0 : Nat) (Z0 : n0 ≤ h0.size) (O : Old Z n0 h0) (SC : Sta Z Z.heap "java/lang/String" "COMPACT_STRINGS" "Z" (.int gC)) (hgC : ¬ gC = (0 : Int32)) (SU : US Z) (SF : Sta Z Z.heap "jdk/internal/util/Preconditions" "SIOOBE_FORMATTER" "Ljava/util/function/BiFunction;" gF) (rgF : gF.isRef = true) :
    own_MFH l Z x code maxLocals ret ws room_1 #[(.int ln), (.int xa), (.int xb), (.int xc), (.int xd)] h0 (Q_rm0 Z ln xa xb xc xd gC gF h0 n0) := by
  have wd := @own_wd _ _ hw
  refine MetFree.of_bodySF (plainFor_of_name pn_com_example_grantline_grantline_GlobIsLiteralPinLaw) hisR ?_
  intro p e s m args below meth c s₁ Bd hml0 hP hK
  obtain ⟨rfl, hZ, hh, hCH⟩ := hP
  have hx := Bd.exec
  have hby := Bd.bytes
  have hml : c.maxLocals = 13 := hml0
  have hown : s.vm.findClass "com/example/grantline/grantline/GlobIsLiteralPinLaw" = some m.cls := findClass_of_methodNamed Bd.named
  have hnm := (name_of_methodNamed Bd.named Bd.method).1
  have X0 : Stand p l e room_1 (s.setVm s.vm) m #[(.int ln), (.int xa), (.int xb), (.int xc), (.int xd)] below meth c s₁ [] 0 0 := Stand.of_body Bd
  have e0 : s₁.heap = h0 := by rw [← hh, Bd.state]; rfl
  have N0 := Fr.nil n0
  have hS : s.Since s.vm 0 := (State.WarmedH.refl s).since 0
  have hh0 := hh
  have hEL := own_EW hw
  have HC0 := CHr.refl hCH
  refine go_of (A := s₁.setTop (entryFrame m #[(.int ln), (.int xa), (.int xb), (.int xc), (.int xd)] maxLocals)) (B := s₁.setTop (mkF m 0 #[.val (.int ln), .val (.int xa), .val (.int xb), .val (.int xc), .val (.int xd), .unset, .unset, .unset, .unset, .unset, .unset, .unset, .unset] [])) (fun _ kk' => castTop (ef_rm0 m ln xa xb xc xd) kk') ?_
  refine go_of (B := (s₁.setTop (mkF m 8 #[.val (.int ln), .val (.int xa), .val (.int xb), .val (.int xc), .val (.int xd), .val (.int ((ln &&& (2147483647 : Int32)) % (5 : Int32))), .unset, .unset, .unset, .unset, .unset, .unset, .unset] []))) (fun _ kk => XS.iloadN X0.here hx rfl (hb hby at_0) rfl (X0.ldcInt hx hown (mvT hZ (wd 0 rfl)) (g := (mkF m 1 #[.val (.int ln), .val (.int xa), .val (.int xb), .val (.int xc), .val (.int xd), .unset, .unset, .unset, .unset, .unset, .unset, .unset, .unset] [(.int ln)])) rfl (hb hby at_1) _ (XS.iand X0.here hx rfl (hb hby at_3) rfl (XS.iconst X0.here hx rfl (hb hby at_4) (iremM X0 hx rfl (hb hby at_5) rfl (by decide) (XS.istore X0.here hx rfl (hb hby at_6) rfl rfl kk)))))) ?_
  rcases own_n5 ln with hn | hn | hn | hn | hn
  · rw [hn]
    exact lw0 ln xa xb xc xd gC gF X0 hx hZ hw hby hml hown Bd.returns Bd.notSynchronized e0 N0 (by first | omega | exact own_ne (by omega) | exact own_le (by omega)) O SC hgC SU SF rgF hh0 hCH
  · rw [hn]
    exact lw1 ln xa xb xc xd gC gF X0 hx hZ hw hby hml hown Bd.returns Bd.notSynchronized e0 N0 (by first | omega | exact own_ne (by omega) | exact own_le (by omega)) O SC hgC SU SF rgF hh0 hCH
  · rw [hn]
    exact lw2 ln xa xb xc xd gC gF X0 hx hZ hw hby hml hown Bd.returns Bd.notSynchronized e0 N0 (by first | omega | exact own_ne (by omega) | exact own_le (by omega)) O SC hgC SU SF rgF hh0 hCH
  · rw [hn]
    exact lw3 ln xa xb xc xd gC gF X0 hx hZ hw hby hml hown Bd.returns Bd.notSynchronized e0 N0 (by first | omega | exact own_ne (by omega) | exact own_le (by omega)) O SC hgC SU SF rgF hh0 hCH
  · rw [hn]
    exact lw4 ln xa xb xc xd gC gF X0 hx hZ hw hby hml hown Bd.returns Bd.notSynchronized e0 N0 (by first | omega | exact own_ne (by omega) | exact own_le (by omega)) O SC hgC SU SF rgF hh0 hCH
theorem own_ne0 {t : Term} {g : Int32} {args : Array Value} {s : State} (ev : t.eval args s none [] s = some (.int g)) (h : (Jvm.Cond.not (.eq t (.int 0))).value args s none s [] = some true) : ¬ g = (0 : Int32) := by
  have h1 := not_v h
  intro q; subst q
  simp [Cond.value, ev, Term.int_eval] at h1
theorem own_eqI {t : Term} {k : Int32} {args : Array Value} {s : State} (h : (Jvm.Cond.eq t (.int k)).value args s none s [] = some true) : t.eval args s none [] s = some (.int k) := by
  obtain ⟨x, y, h1, h2, -, kyx⟩ := cmp_v (Or.inl h)
  have e2 : y = .int k := (Option.some.inj (h2.symm.trans (Term.int_eval k)))
  subst e2
  obtain ⟨z, rfl⟩ := kyx
  have hz : z = k := by simpa [Cond.value, h1, Term.int_eval] using h
  subst hz
  exact h1
theorem comes_1 {Post : Tables → Env → Array Value → State → Outcome → State → Prop} (hpost : ∀ tb e args s v u, (limb_1_1.after args s (.returned v) u = true ∧ limb_1_2.after args s (.returned v) u = true ∧ True) → ReturnedEndW s (.returned v) u (Jvm.fieldLocs frame_1_writes args s ++ Jvm.arrayLocs frame_1_arrays args s ++ Jvm.staticLocs frame_1_statics s) 24 1152 → Post tb e args s (.returned v) u) :
    ArmFor flags0 classFile x code maxLocals ret World_1 tables_1 room_1 Calls_1 rest_1 Pre_1 Post := by
  intro l hfl _ _ p e ha hc hk s m args below hf hA hF happ hP
  obtain ⟨hcalls, hrest, hpre⟩ := hP
  obtain ⟨-, -, -, hnamed, -, -, -, hat⟩ := (Spec.applies_iff hf).mp happ
  obtain ⟨hg, hn⟩ := and_e (Cond.before_iff.mp (show (Jvm.Cond.and given_1 narrow_1).before args s = true from hpre))
  obtain ⟨g1, g2⟩ := and_e hg
  obtain ⟨g3, g4⟩ := and_e g2
  obtain ⟨g5, g6⟩ := and_e g4
  obtain ⟨g7, g8⟩ := and_e g6
  obtain ⟨g9, g10⟩ := and_e g8
  obtain ⟨w0, w1, w2, w3, w4, rfl⟩ : ∃ w0 w1 w2 w3 w4 : Value, args = #[w0, w1, w2, w3, w4] := by
    have hs : args.size = 5 := by simpa [Cond.value, given_1] using g1
    obtain ⟨L⟩ := args
    match L, hs with
    | [w0, w1, w2, w3, w4], _ => exact ⟨w0, w1, w2, w3, w4, rfl⟩
  have hw := fun d (hd : d ∈ tables_1) => atoms_spec (ws := Jvm.Cond.code x code maxLocals ret :: tables_1) hat d (List.mem_cons_of_mem _ hd)
  have wd := @own_wd _ _ hw
  have hfit : Fit s := fun {y c} hc i hi => by
    obtain ⟨ha, rfl⟩ := Array.getElem?_eq_some_iff.mp hc
    have q := List.all_eq_true.mp ((Array.all_eq_true_iff_forall_mem.mp hF) _ (Array.getElem_mem ha)) i (List.mem_range.mpr hi)
    simpa [Array.getElem?_eq_getElem hi] using q
  obtain ⟨hsets, hown0⟩ := atoms_of _ (rest_1_c_eq ▸ (show rest_1_c.before _ s = true from hrest))
  have hr0 := Cond.before_iff.mp hown0
  obtain ⟨i0, ei0⟩ := is_v g3
  obtain rfl : w0 = (.int i0) := Option.some.inj ei0
  obtain ⟨i1, ei1⟩ := is_v g5
  obtain rfl : w1 = (.int i1) := Option.some.inj ei1
  obtain ⟨i2, ei2⟩ := is_v g7
  obtain rfl : w2 = (.int i2) := Option.some.inj ei2
  obtain ⟨i3, ei3⟩ := is_v g9
  obtain rfl : w3 = (.int i3) := Option.some.inj ei3
  obtain ⟨i4, ei4⟩ := is_v g10
  obtain rfl : w4 = (.int i4) := Option.some.inj ei4
  obtain ⟨gC, evC⟩ := is_v (Cond.before_iff.mp (hsets _ (List.mem_of_getElem? (i := 1) rfl)))
  have SC := Sta.start evC (Or.inl (hsets _ (List.mem_of_getElem? (i := 0) rfl)))
  have hgC : ¬ gC = (0 : Int32) := own_ne0 evC (Cond.before_iff.mp (hsets _ (List.mem_of_getElem? (i := 2) rfl)))
  obtain ⟨gF, evF, rgF⟩ := isR_v (Cond.before_iff.mp (hsets _ (List.mem_of_getElem? (i := 8) rfl)))
  have SF := Sta.start evF (Or.inl (hsets _ (List.mem_of_getElem? (i := 7) rfl)))
  have SU : US s := ⟨Sta.start (own_eqI (Cond.before_iff.mp (hsets _ (List.mem_of_getElem? (i := 12) rfl)))) (Or.inl (hsets _ (List.mem_of_getElem? (i := 11) rfl))), Sta.start (own_eqI (Cond.before_iff.mp (hsets _ (List.mem_of_getElem? (i := 15) rfl)))) (Or.inl (hsets _ (List.mem_of_getElem? (i := 14) rfl))), Sta.start (own_eqI (Cond.before_iff.mp (hsets _ (List.mem_of_getElem? (i := 18) rfl)))) (Or.inl (hsets _ (List.mem_of_getElem? (i := 17) rfl)))⟩
  have hHeld : ∀ p ∈ own_EL, Jvm.Lit.constHeld s p.1 p.2 := by
    intro p hp
    simp only [own_EL, List.mem_cons, List.not_mem_nil, or_false] at hp
    rcases hp with rfl
    · exact hcalls.1 _ (List.mem_of_getElem? (i := 0) rfl)
  have hCH := CHv.start (own_EW hw) hHeld (hsets _ (List.mem_of_getElem? (i := 2) rfl)) (wd 21 rfl) (wd 8 rfl)
  obtain ⟨n, o, h1, h2, h3, _, L, rfl, ⟨rfl, N⟩, -, hq⟩ := rm0 l s _ hw tables_1 i0 i1 i2 i3 i4 gC gF s.heap s.heap.size (Nat.le_refl _) (Old.start s) SC hgC SU SF rgF p e ha hc hk s m _ below hf ((Spec.applies_iff_loose hf).mp happ).1 ⟨rfl, State.Warmed39.refl s, rfl, hCH⟩ trivial
  exact ⟨n, _, h1, h2, h3, hpost _ _ _ _ _ _ ⟨Cond.after_iff.mpr rfl, Cond.after_iff.mpr (eq_i res_at (Term.int_eval (1)) rfl), trivial⟩ ⟨hq.1, hq.2.1, hq.2.2.1, (hq.2.2.2.sift fun y hy => Or.inr (N y hy)).mono (by decide) (by decide)⟩⟩
theorem main_1_1 : Claimed_1_1 := comes_1 fun _ _ _ _ _ _ h hF => ⟨h.1, hF⟩
theorem main_1_2 : Claimed_1_2 := comes_1 fun _ _ _ _ _ _ h hF => ⟨h.2.1, hF⟩
end Jvm.Pilot.@@N@@
namespace Jvm.Pilot.@@N@@
open Jvm Jvm.ClassFile Sem Op Lib Jvm.Free Jvm.Stand Jvm.Pilot.@@N@@.Jvm.D
/-! MADE BY PROGRAM (witnessworld.py) out of the Statement's table words and the real class files: 21 classes; the members and pool entries that the words name. The judged class is class 1, her method 3. -/
namespace start1
open Jvm.ClassFile
def u (s : String) : CpInfo := .utf8 (stringToUtf16 s)
/-- a pool by its gaps: so many unusable entries, then the entry; so many at the end -/
def gap : Nat → List CpInfo → List CpInfo
  | 0, r => r
  | n + 1, r => .unusable :: gap n r
def poolList (es : List (Nat × CpInfo)) (last : Nat) : List CpInfo := es.foldr (fun e r => gap e.1 (e.2 :: r)) (gap last [])
def pool (es : List (Nat × CpInfo)) (last : Nat) : Array CpInfo := ⟨poolList es last⟩
def fileOf (pool : Array CpInfo) (this : Nat) (attrs : Array Attribute := #[]) (ms : Array MethodInfo := #[]) (fl : Nat := 33) (sup : Nat := 0) (ifs : Array Nat := #[]) (fds : Array FieldInfo := #[]) : ClassFile where
  minorVersion := 0
  majorVersion := 65
  constantPool := pool
  accessFlags := fl
  thisClass := this
  superClass := sup
  interfaces := ifs
  fields := fds
  methods := ms
  attributes := attrs
def plain (name : String) (sup : Option ClassId) : Class where
  name := name
  kind := .ordinary
  loader := none
  accessFlags := 33
  super := sup
  interfaces := #[]
  cf := none
  fields := #[]
  methods := #[]
  instanceTypes := #[]
  staticTypes := #[]
  resolved := #[]
  callSites := []
  init := .initialized
  statics := none
  mirror := none

def pool0 : Array CpInfo := pool [(5, u "<init>"), (0, u "()V"), (1, .class_ 10), (1, u "java/lang/Object")] 113

def k0c0 : Code := { maxStack := 0, maxLocals := 1, code := object_method_1_code, exceptionTable := #[], attributes := #[] }
def k0m0 : Method := { name := "<init>", desc := "()V", sig := { parameters := [], returnType := none }, accessFlags := 1, code := some k0c0 }
/-- java/lang/Object -/
def k0 : Class := { plain "java/lang/Object" none with
  accessFlags := 33
  interfaces := #[]
  cf := some (fileOf pool0 8 #[] #[{ accessFlags := 1, nameIndex := 5, descriptorIndex := 6, attributes := #[] }] 33 0 #[] #[])
  fields := #[]
  methods := #[k0m0]
  instanceTypes := #[]
  staticTypes := #[]
  resolved := Array.replicate 124 none
  statics := none }

def pool1 : Array CpInfo := pool [(2, .class_ 4), (1, u "java/lang/Object"), (0, u "<init>"), (0, u "()V"), (0, .integer 65535), (0, .integer 2147483647), (0, .methodref 10 11), (0, .class_ 12), (0, .nameAndType 13 14), (0, u "com/example/grantline/grantline/GlobIsLiteralPinLaw"), (0, u "ch"), (0, u "(I)C"), (0, .methodref 10 16), (0, .nameAndType 17 18), (0, u "wild"), (0, u "(C)Z"), (0, .class_ 20), (0, u "java/lang/String"), (0, .methodref 19 22), (0, .nameAndType 5 23), (0, u "([C)V"), (0, .methodref 25 26), (0, .class_ 27), (0, .nameAndType 28 29), (0, u "com/example/grantline/grantline/Glob"), (0, u "isLiteral"), (0, u "(Ljava/lang/String;)Z"), (3, u "law"), (0, u "(IIIII)Z")] 4

def k1m0 : Method := { name := "<init>", desc := "()V", sig := { parameters := [], returnType := none }, accessFlags := 2, code := none }
def k1c1 : Code := { maxStack := 2, maxLocals := 2, code := method_2_code, exceptionTable := #[], attributes := #[] }
def k1m1 : Method := { name := "ch", desc := "(I)C", sig := { parameters := [.int], returnType := some .char }, accessFlags := 10, code := some k1c1 }
def k1c2 : Code := { maxStack := 2, maxLocals := 1, code := method_3_code, exceptionTable := #[], attributes := #[] }
def k1m2 : Method := { name := "wild", desc := "(C)Z", sig := { parameters := [.char], returnType := some .boolean }, accessFlags := 10, code := some k1c2 }
def k1c3 : Code := { maxStack := 4, maxLocals := 13, code := code, exceptionTable := #[], attributes := #[] }
def k1m3 : Method := { name := "law", desc := "(IIIII)Z", sig := { parameters := [.int, .int, .int, .int, .int], returnType := some .boolean }, accessFlags := 9, code := some k1c3 }
/-- com/example/grantline/grantline/GlobIsLiteralPinLaw -/
def k1 : Class := { plain "com/example/grantline/grantline/GlobIsLiteralPinLaw" (some 0) with
  accessFlags := 49
  interfaces := #[]
  cf := some (fileOf pool1 10 #[] #[{ accessFlags := 2, nameIndex := 5, descriptorIndex := 6, attributes := #[] }, { accessFlags := 10, nameIndex := 13, descriptorIndex := 14, attributes := #[] }, { accessFlags := 10, nameIndex := 17, descriptorIndex := 18, attributes := #[] }, { accessFlags := 9, nameIndex := 33, descriptorIndex := 34, attributes := #[] }] 49 2 #[] #[])
  fields := #[]
  methods := #[k1m0, k1m1, k1m2, k1m3]
  instanceTypes := #[]
  staticTypes := #[]
  resolved := Array.replicate 39 none
  statics := none }

def pool2 : Array CpInfo := pool [(1, .class_ 2), (0, u "java/io/Serializable"), (0, .class_ 4), (0, u "java/lang/Object")] 2

/-- java/io/Serializable -/
def k2 : Class := { plain "java/io/Serializable" (some 0) with
  accessFlags := 1537
  interfaces := #[]
  cf := some (fileOf pool2 1 #[] #[] 1537 3 #[] #[])
  fields := #[]
  methods := #[]
  instanceTypes := #[]
  staticTypes := #[]
  resolved := Array.replicate 7 none
  statics := none }

def pool3 : Array CpInfo := pool [(1, .class_ 2), (0, u "java/lang/Comparable"), (0, .class_ 4), (0, u "java/lang/Object")] 7

/-- java/lang/Comparable -/
def k3 : Class := { plain "java/lang/Comparable" (some 0) with
  accessFlags := 1537
  interfaces := #[]
  cf := some (fileOf pool3 1 #[] #[] 1537 3 #[] #[])
  fields := #[]
  methods := #[]
  instanceTypes := #[]
  staticTypes := #[]
  resolved := Array.replicate 12 none
  statics := none }

def pool4 : Array CpInfo := pool [(2, .class_ 4), (1, u "java/lang/CharSequence"), (42, .class_ 48), (0, u "java/lang/CharSequence$1CodePointIterator"), (10, .class_ 60), (0, u "java/lang/CharSequence$1CharIterator"), (5, .class_ 67), (0, u "java/lang/Object")] 63

/-- java/lang/CharSequence -/
def k4 : Class := { plain "java/lang/CharSequence" (some 0) with
  accessFlags := 1537
  interfaces := #[]
  cf := some (fileOf pool4 2 #[.nestMembers #[47, 59]] #[] 1537 66 #[] #[])
  fields := #[]
  methods := #[]
  instanceTypes := #[]
  staticTypes := #[]
  resolved := Array.replicate 131 none
  statics := none }

def pool5 : Array CpInfo := pool [(1, .class_ 2), (0, u "java/lang/constant/Constable"), (0, .class_ 4), (0, u "java/lang/Object")] 6

/-- java/lang/constant/Constable -/
def k5 : Class := { plain "java/lang/constant/Constable" (some 0) with
  accessFlags := 1537
  interfaces := #[]
  cf := some (fileOf pool5 1 #[] #[] 1537 3 #[] #[])
  fields := #[]
  methods := #[]
  instanceTypes := #[]
  staticTypes := #[]
  resolved := Array.replicate 11 none
  statics := none }

def pool6 : Array CpInfo := pool [(1, .class_ 2), (0, u "java/lang/constant/ConstantDesc"), (0, .class_ 4), (0, u "java/lang/Object")] 32

/-- java/lang/constant/ConstantDesc -/
def k6 : Class := { plain "java/lang/constant/ConstantDesc" (some 0) with
  accessFlags := 1537
  interfaces := #[]
  cf := some (fileOf pool6 1 #[] #[] 1537 3 #[] #[])
  fields := #[]
  methods := #[]
  instanceTypes := #[]
  staticTypes := #[]
  resolved := Array.replicate 37 none
  statics := none }

def pool7 : Array CpInfo := pool [(1, .methodref 2 3), (0, .class_ 4), (0, .nameAndType 5 6), (0, u "java/lang/Object"), (0, u "<init>"), (0, u "()V"), (0, .string 8), (0, u ""), (0, .fieldref 10 11), (0, .class_ 12), (0, .nameAndType 13 14), (0, u "java/lang/String"), (0, u "value"), (0, u "[B"), (0, .fieldref 10 16), (0, .nameAndType 17 18), (0, u "coder"), (0, u "B"), (2, u "hash"), (0, u "I"), (2, u "hashIsZero"), (0, u "Z"), (0, .methodref 10 28), (0, .nameAndType 5 29), (0, u "([CIILjava/lang/Void;)V"), (8, .fieldref 10 39), (0, .nameAndType 40 26), (0, u "COMPACT_STRINGS"), (1, .class_ 44), (1, u "java/lang/StringUTF16"), (0, u "compress"), (1, .methodref 42 48), (0, .nameAndType 49 50), (0, u "coderFromArrayLen"), (0, u "([BI)B"), (56, .class_ 109), (1, u "java/lang/StringLatin1"), (32, u "()Z"), (34, .methodref 42 178), (0, .nameAndType 45 179), (0, u "([CII)[B"), (154, u "()I"), (0, .methodref 10 336), (0, .nameAndType 17 337), (0, u "()B"), (154, .methodref 10 493), (0, .nameAndType 494 142), (0, u "isLatin1"), (10, .methodref 10 506), (0, .nameAndType 507 334), (0, u "length"), (5, u "checkFromToIndex"), (9, u "checkBoundsBeginEnd"), (0, u "(III)V"), (50, .class_ 576), (0, u "java/lang/CharSequence"), (22, u "CASE_INSENSITIVE_ORDER"), (0, u "Ljava/util/Comparator;"), (32, .methodref 10 634), (0, .nameAndType 635 636), (0, u "indexOf"), (0, u "(II)I"), (0, .methodref 107 638), (0, .nameAndType 635 639), (0, u "([BIII)I"), (0, .methodref 42 638), (124, u "(I)I"), (244, u "([C)V"), (42, .fieldref 1054 1055), (0, .class_ 1056), (0, .nameAndType 1057 1058), (0, u "jdk/internal/util/Preconditions"), (0, u "SIOOBE_FORMATTER"), (0, u "Ljava/util/function/BiFunction;"), (3, .methodref 1054 1063), (0, .nameAndType 513 1064), (0, u "(IIILjava/util/function/BiFunction;)I"), (36, u "serialPersistentFields"), (0, u "[Ljava/io/ObjectStreamField;"), (0, .class_ 1104), (0, u "java/lang/String$CaseInsensitiveComparator"), (1, .class_ 1107), (0, u "java/io/Serializable"), (0, .class_ 1109), (0, u "java/lang/Comparable"), (0, .class_ 1111), (0, u "java/lang/constant/Constable"), (0, .class_ 1113), (0, u "java/lang/constant/ConstantDesc"), (2, u "serialVersionUID"), (0, u "J"), (3, u "REPL"), (0, u "C"), (2, u "LATIN1"), (1, u "UTF16")] 323

def k7m0 : Method := { name := "<init>", desc := "()V", sig := { parameters := [], returnType := none }, accessFlags := 1, code := none }
def k7c1 : Code := { maxStack := 5, maxLocals := 2, code := jdk_42_method_3_code, exceptionTable := #[], attributes := #[] }
def k7m1 : Method := { name := "<init>", desc := "([C)V", sig := { parameters := [(.array .char)], returnType := none }, accessFlags := 1, code := some k7c1 }
def k7c2 : Code := { maxStack := 2, maxLocals := 1, code := jdk_42_method_54_code, exceptionTable := #[], attributes := #[] }
def k7m2 : Method := { name := "length", desc := "()I", sig := { parameters := [], returnType := some .int }, accessFlags := 1, code := some k7c2 }
def k7c3 : Code := { maxStack := 3, maxLocals := 2, code := jdk_42_method_79_code, exceptionTable := #[], attributes := #[] }
def k7m3 : Method := { name := "indexOf", desc := "(I)I", sig := { parameters := [.int], returnType := some .int }, accessFlags := 1, code := some k7c3 }
def k7c4 : Code := { maxStack := 4, maxLocals := 3, code := jdk_42_method_80_code, exceptionTable := #[], attributes := #[] }
def k7m4 : Method := { name := "indexOf", desc := "(II)I", sig := { parameters := [.int, .int], returnType := some .int }, accessFlags := 1, code := some k7c4 }
def k7c5 : Code := { maxStack := 4, maxLocals := 6, code := jdk_42_method_149_code, exceptionTable := #[], attributes := #[] }
def k7m5 : Method := { name := "<init>", desc := "([CIILjava/lang/Void;)V", sig := { parameters := [(.array .char), .int, .int, (.object "java/lang/Void")], returnType := none }, accessFlags := 2, code := some k7c5 }
def k7c6 : Code := { maxStack := 1, maxLocals := 1, code := jdk_42_method_152_code, exceptionTable := #[], attributes := #[] }
def k7m6 : Method := { name := "coder", desc := "()B", sig := { parameters := [], returnType := some .byte }, accessFlags := 0, code := some k7c6 }
def k7c7 : Code := { maxStack := 1, maxLocals := 1, code := jdk_42_method_154_code, exceptionTable := #[], attributes := #[] }
def k7m7 : Method := { name := "isLatin1", desc := "()Z", sig := { parameters := [], returnType := some .boolean }, accessFlags := 0, code := some k7c7 }
def k7c8 : Code := { maxStack := 4, maxLocals := 3, code := jdk_42_method_158_code, exceptionTable := #[], attributes := #[] }
def k7m8 : Method := { name := "checkBoundsBeginEnd", desc := "(III)V", sig := { parameters := [.int, .int, .int], returnType := none }, accessFlags := 8, code := some k7c8 }
/-- java/lang/String -/
def k7 : Class := { plain "java/lang/String" (some 0) with
  accessFlags := 49
  interfaces := #[2, 3, 4, 5, 6]
  cf := some (fileOf pool7 10 #[.nestMembers #[1103]] #[{ accessFlags := 1, nameIndex := 5, descriptorIndex := 6, attributes := #[] }, { accessFlags := 1, nameIndex := 5, descriptorIndex := 1010, attributes := #[] }, { accessFlags := 1, nameIndex := 507, descriptorIndex := 334, attributes := #[] }, { accessFlags := 1, nameIndex := 635, descriptorIndex := 765, attributes := #[] }, { accessFlags := 1, nameIndex := 635, descriptorIndex := 636, attributes := #[] }, { accessFlags := 2, nameIndex := 5, descriptorIndex := 29, attributes := #[] }, { accessFlags := 0, nameIndex := 17, descriptorIndex := 337, attributes := #[] }, { accessFlags := 0, nameIndex := 494, descriptorIndex := 142, attributes := #[] }, { accessFlags := 8, nameIndex := 523, descriptorIndex := 524, attributes := #[] }] 49 2 #[1106, 1108, 575, 1110, 1112] #[{ accessFlags := 18, nameIndex := 13, descriptorIndex := 14, attributes := #[] }, { accessFlags := 18, nameIndex := 17, descriptorIndex := 18, attributes := #[] }, { accessFlags := 2, nameIndex := 21, descriptorIndex := 22, attributes := #[] }, { accessFlags := 2, nameIndex := 25, descriptorIndex := 26, attributes := #[] }, { accessFlags := 26, nameIndex := 1116, descriptorIndex := 1117, attributes := #[] }, { accessFlags := 24, nameIndex := 40, descriptorIndex := 26, attributes := #[] }, { accessFlags := 26, nameIndex := 1101, descriptorIndex := 1102, attributes := #[] }, { accessFlags := 26, nameIndex := 1121, descriptorIndex := 1122, attributes := #[] }, { accessFlags := 25, nameIndex := 599, descriptorIndex := 600, attributes := #[] }, { accessFlags := 24, nameIndex := 1125, descriptorIndex := 18, attributes := #[] }, { accessFlags := 24, nameIndex := 1127, descriptorIndex := 18, attributes := #[] }])
  fields := #[{ name := "value", type := (.array .byte), accessFlags := 18, slot := 0, constantValue := 0 }, { name := "coder", type := .byte, accessFlags := 18, slot := 1, constantValue := 0 }, { name := "hash", type := .int, accessFlags := 2, slot := 2, constantValue := 0 }, { name := "hashIsZero", type := .boolean, accessFlags := 2, slot := 3, constantValue := 0 }, { name := "serialVersionUID", type := .long, accessFlags := 26, slot := 0, constantValue := 0 }, { name := "COMPACT_STRINGS", type := .boolean, accessFlags := 24, slot := 1, constantValue := 0 }, { name := "serialPersistentFields", type := (.array (.object "java/io/ObjectStreamField")), accessFlags := 26, slot := 2, constantValue := 0 }, { name := "REPL", type := .char, accessFlags := 26, slot := 3, constantValue := 0 }, { name := "CASE_INSENSITIVE_ORDER", type := (.object "java/util/Comparator"), accessFlags := 25, slot := 4, constantValue := 0 }, { name := "LATIN1", type := .byte, accessFlags := 24, slot := 5, constantValue := 0 }, { name := "UTF16", type := .byte, accessFlags := 24, slot := 6, constantValue := 0 }]
  methods := #[k7m0, k7m1, k7m2, k7m3, k7m4, k7m5, k7m6, k7m7, k7m8]
  instanceTypes := #[(.array .byte), .byte, .int, .boolean]
  staticTypes := #[.long, .boolean, (.array (.object "java/io/ObjectStreamField")), .char, (.object "java/util/Comparator"), .byte, .byte]
  resolved := Array.replicate 1451 none
  statics := some 0 }

def pool8 : Array CpInfo := pool [(2, .class_ 4), (1, u "java/lang/Object"), (0, u "<init>"), (0, u "()V"), (1, .class_ 10), (1, u "java/lang/String"), (9, u "(I)I"), (5, .methodref 8 27), (0, .nameAndType 28 20), (0, u "indexOf"), (0, .class_ 30), (0, u "com/example/grantline/grantline/Glob"), (5, u "isLiteral"), (0, u "(Ljava/lang/String;)Z")] 2

def k8m0 : Method := { name := "<init>", desc := "()V", sig := { parameters := [], returnType := none }, accessFlags := 2, code := none }
def k8c1 : Code := { maxStack := 2, maxLocals := 1, code := prog_12_method_3_code, exceptionTable := #[], attributes := #[] }
def k8m1 : Method := { name := "isLiteral", desc := "(Ljava/lang/String;)Z", sig := { parameters := [(.object "java/lang/String")], returnType := some .boolean }, accessFlags := 8, code := some k8c1 }
/-- com/example/grantline/grantline/Glob -/
def k8 : Class := { plain "com/example/grantline/grantline/Glob" (some 0) with
  accessFlags := 48
  interfaces := #[]
  cf := some (fileOf pool8 29 #[] #[{ accessFlags := 2, nameIndex := 5, descriptorIndex := 6, attributes := #[] }, { accessFlags := 8, nameIndex := 36, descriptorIndex := 37, attributes := #[] }] 48 2 #[] #[])
  fields := #[]
  methods := #[k8m0, k8m1]
  instanceTypes := #[]
  staticTypes := #[]
  resolved := Array.replicate 40 none
  statics := none }

def pool9 : Array CpInfo := pool [(4, .class_ 6), (1, u "java/lang/Object"), (0, u "<init>"), (0, u "()V"), (5, .class_ 16), (1, u "java/lang/StringLatin1"), (21, .methodref 39 40), (0, .class_ 41), (0, .nameAndType 42 43), (0, u "java/lang/Math"), (0, u "min"), (0, u "(II)I"), (44, .methodref 14 89), (0, .nameAndType 90 91), (0, u "canEncode"), (0, u "(I)Z"), (0, .methodref 39 93), (0, .nameAndType 94 43), (0, u "max"), (0, .methodref 14 96), (0, .nameAndType 97 98), (0, u "indexOfChar"), (0, u "([BIII)I"), (2, u "indexOf"), (19, u "$assertionsDisabled"), (0, u "Z"), (98, .class_ 223), (1, u "java/lang/StringLatin1$LinesSpliterator"), (166, .class_ 391), (0, u "java/lang/StringLatin1$CharsSpliterator")] 3

def k9m0 : Method := { name := "<init>", desc := "()V", sig := { parameters := [], returnType := none }, accessFlags := 0, code := none }
def k9c1 : Code := { maxStack := 2, maxLocals := 1, code := jdk_43_method_4_code, exceptionTable := #[], attributes := #[] }
def k9m1 : Method := { name := "canEncode", desc := "(I)Z", sig := { parameters := [.int], returnType := some .boolean }, accessFlags := 9, code := some k9c1 }
def k9c2 : Code := { maxStack := 4, maxLocals := 4, code := jdk_43_method_22_code, exceptionTable := #[], attributes := #[] }
def k9m2 : Method := { name := "indexOf", desc := "([BIII)I", sig := { parameters := [(.array .byte), .int, .int, .int], returnType := some .int }, accessFlags := 9, code := some k9c2 }
def k9c3 : Code := { maxStack := 2, maxLocals := 6, code := jdk_43_method_23_code, exceptionTable := #[], attributes := #[] }
def k9m3 : Method := { name := "indexOfChar", desc := "([BIII)I", sig := { parameters := [(.array .byte), .int, .int, .int], returnType := some .int }, accessFlags := 10, code := some k9c3 }
/-- java/lang/StringLatin1 -/
def k9 : Class := { plain "java/lang/StringLatin1" (some 0) with
  accessFlags := 48
  interfaces := #[]
  cf := some (fileOf pool9 14 #[.nestMembers #[390, 221]] #[{ accessFlags := 0, nameIndex := 7, descriptorIndex := 8, attributes := #[] }, { accessFlags := 9, nameIndex := 90, descriptorIndex := 91, attributes := #[] }, { accessFlags := 9, nameIndex := 101, descriptorIndex := 98, attributes := #[] }, { accessFlags := 10, nameIndex := 97, descriptorIndex := 98, attributes := #[] }] 48 4 #[] #[{ accessFlags := 4120, nameIndex := 121, descriptorIndex := 122, attributes := #[] }])
  fields := #[{ name := "$assertionsDisabled", type := .boolean, accessFlags := 4120, slot := 0, constantValue := 0 }]
  methods := #[k9m0, k9m1, k9m2, k9m3]
  instanceTypes := #[]
  staticTypes := #[.boolean]
  resolved := Array.replicate 395 none
  statics := none }

def pool10 : Array CpInfo := pool [(1, .class_ 2), (0, u "java/lang/Math"), (1, .class_ 6), (1, u "java/lang/Object"), (0, u "<init>"), (0, u "()V"), (89, .class_ 100), (1, u "java/lang/Math$RandomNumberGeneratorHolder"), (71, u "negativeZeroFloatBits"), (0, u "J"), (2, u "negativeZeroDoubleBits"), (21, u "max"), (2, u "min"), (43, u "$assertionsDisabled"), (0, u "Z"), (88, u "(II)I"), (2, u "twoToTheDoubleScaleDown"), (0, u "D"), (4, u "twoToTheDoubleScaleUp"), (9, u "E"), (3, u "PI"), (2, u "TAU"), (2, u "DEGREES_TO_RADIANS"), (0, u "RADIANS_TO_DEGREES")] 94

def k10m0 : Method := { name := "<init>", desc := "()V", sig := { parameters := [], returnType := none }, accessFlags := 2, code := none }
def k10c1 : Code := { maxStack := 2, maxLocals := 2, code := jdk_29_method_65_code, exceptionTable := #[], attributes := #[] }
def k10m1 : Method := { name := "max", desc := "(II)I", sig := { parameters := [.int, .int], returnType := some .int }, accessFlags := 9, code := some k10c1 }
def k10c2 : Code := { maxStack := 2, maxLocals := 2, code := jdk_29_method_69_code, exceptionTable := #[], attributes := #[] }
def k10m2 : Method := { name := "min", desc := "(II)I", sig := { parameters := [.int, .int], returnType := some .int }, accessFlags := 9, code := some k10c2 }
/-- java/lang/Math -/
def k10 : Class := { plain "java/lang/Math" (some 0) with
  accessFlags := 49
  interfaces := #[]
  cf := some (fileOf pool10 1 #[.nestMembers #[98]] #[{ accessFlags := 2, nameIndex := 7, descriptorIndex := 8, attributes := #[] }, { accessFlags := 9, nameIndex := 198, descriptorIndex := 335, attributes := #[] }, { accessFlags := 9, nameIndex := 201, descriptorIndex := 335, attributes := #[] }] 49 4 #[] #[{ accessFlags := 25, nameIndex := 354, descriptorIndex := 339, attributes := #[] }, { accessFlags := 25, nameIndex := 358, descriptorIndex := 339, attributes := #[] }, { accessFlags := 25, nameIndex := 361, descriptorIndex := 339, attributes := #[] }, { accessFlags := 26, nameIndex := 364, descriptorIndex := 339, attributes := #[] }, { accessFlags := 26, nameIndex := 365, descriptorIndex := 339, attributes := #[] }, { accessFlags := 26, nameIndex := 172, descriptorIndex := 173, attributes := #[] }, { accessFlags := 26, nameIndex := 176, descriptorIndex := 173, attributes := #[] }, { accessFlags := 8, nameIndex := 344, descriptorIndex := 339, attributes := #[] }, { accessFlags := 8, nameIndex := 338, descriptorIndex := 339, attributes := #[] }, { accessFlags := 4120, nameIndex := 245, descriptorIndex := 246, attributes := #[] }])
  fields := #[{ name := "E", type := .double, accessFlags := 25, slot := 0, constantValue := 0 }, { name := "PI", type := .double, accessFlags := 25, slot := 1, constantValue := 0 }, { name := "TAU", type := .double, accessFlags := 25, slot := 2, constantValue := 0 }, { name := "DEGREES_TO_RADIANS", type := .double, accessFlags := 26, slot := 3, constantValue := 0 }, { name := "RADIANS_TO_DEGREES", type := .double, accessFlags := 26, slot := 4, constantValue := 0 }, { name := "negativeZeroFloatBits", type := .long, accessFlags := 26, slot := 5, constantValue := 0 }, { name := "negativeZeroDoubleBits", type := .long, accessFlags := 26, slot := 6, constantValue := 0 }, { name := "twoToTheDoubleScaleUp", type := .double, accessFlags := 8, slot := 7, constantValue := 0 }, { name := "twoToTheDoubleScaleDown", type := .double, accessFlags := 8, slot := 8, constantValue := 0 }, { name := "$assertionsDisabled", type := .boolean, accessFlags := 4120, slot := 9, constantValue := 0 }]
  methods := #[k10m0, k10m1, k10m2]
  instanceTypes := #[]
  staticTypes := #[.double, .double, .double, .double, .double, .long, .long, .double, .double, .boolean]
  resolved := Array.replicate 460 none
  statics := none }

def pool11 : Array CpInfo := pool [(3, .class_ 4), (0, u "java/lang/String"), (1, .class_ 8), (1, u "java/lang/Object"), (0, u "<init>"), (0, u "()V"), (0, .methodref 12 13), (0, .class_ 14), (0, .nameAndType 15 16), (0, u "java/lang/StringUTF16"), (0, u "newBytesLength"), (0, u "(I)I"), (3, .integer 1073741823), (23, .fieldref 12 45), (0, .nameAndType 46 47), (0, u "$assertionsDisabled"), (0, u "Z"), (0, .methodref 12 49), (0, .nameAndType 50 51), (0, u "length"), (0, u "([B)I"), (7, .fieldref 12 60), (0, .nameAndType 61 62), (0, u "HI_BYTE_SHIFT"), (0, u "I"), (0, .fieldref 12 64), (0, .nameAndType 65 62), (0, u "LO_BYTE_SHIFT"), (5, .methodref 12 72), (0, .nameAndType 73 74), (0, u "getChar"), (0, u "([BI)C"), (21, .methodref 12 97), (0, .nameAndType 98 99), (0, u "checkBoundsBeginEnd"), (0, u "(II[B)V"), (7, .methodref 12 108), (0, .nameAndType 109 110), (0, u "newBytesFor"), (0, u "(I)[B"), (0, .methodref 12 112), (0, .nameAndType 113 114), (0, u "putChar"), (0, u "([BII)V"), (0, .methodref 12 116), (0, .nameAndType 117 118), (0, u "compress"), (0, u "([CI[BII)I"), (0, .methodref 12 120), (0, .nameAndType 121 122), (0, u "toBytes"), (0, u "([CII)[B"), (60, .methodref 184 185), (0, .class_ 186), (0, .nameAndType 187 188), (0, u "java/lang/Math"), (0, u "min"), (0, u "(II)I"), (35, .methodref 184 225), (0, .nameAndType 226 188), (0, u "max"), (0, .integer 65536), (0, .methodref 12 229), (0, .nameAndType 230 231), (0, u "indexOfChar"), (0, u "([BIII)I"), (9, .methodref 3 242), (0, .nameAndType 98 243), (0, u "(III)V"), (0, .methodref 12 245), (0, .nameAndType 246 231), (0, u "indexOfCharUnsafe"), (14, u "coderFromArrayLen"), (0, u "([BI)B"), (5, u "indexOf"), (100, .class_ 371), (1, u "java/lang/StringUTF16$LinesSpliterator"), (58, u "MAX_LENGTH"), (196, .class_ 628), (0, u "java/lang/StringUTF16$CodePointsSpliterator"), (0, .class_ 630), (0, u "java/lang/StringUTF16$CharsSpliterator")] 4

def k11m0 : Method := { name := "<init>", desc := "()V", sig := { parameters := [], returnType := none }, accessFlags := 0, code := none }
def k11c1 : Code := { maxStack := 1, maxLocals := 1, code := jdk_52_method_2_code, exceptionTable := #[], attributes := #[] }
def k11m1 : Method := { name := "newBytesFor", desc := "(I)[B", sig := { parameters := [.int], returnType := some (.array .byte) }, accessFlags := 9, code := some k11c1 }
def k11c2 : Code := { maxStack := 4, maxLocals := 1, code := jdk_52_method_3_code, exceptionTable := #[], attributes := #[] }
def k11m2 : Method := { name := "newBytesLength", desc := "(I)I", sig := { parameters := [.int], returnType := some .int }, accessFlags := 9, code := some k11c2 }
def k11c3 : Code := { maxStack := 4, maxLocals := 3, code := jdk_52_method_4_code, exceptionTable := #[], attributes := #[] }
def k11m3 : Method := { name := "putChar", desc := "([BII)V", sig := { parameters := [(.array .byte), .int, .int], returnType := none }, accessFlags := 8, code := some k11c3 }
def k11c4 : Code := { maxStack := 3, maxLocals := 2, code := jdk_52_method_5_code, exceptionTable := #[], attributes := #[] }
def k11m4 : Method := { name := "getChar", desc := "([BI)C", sig := { parameters := [(.array .byte), .int], returnType := some .char }, accessFlags := 8, code := some k11c4 }
def k11c5 : Code := { maxStack := 2, maxLocals := 1, code := jdk_52_method_6_code, exceptionTable := #[], attributes := #[] }
def k11m5 : Method := { name := "length", desc := "([B)I", sig := { parameters := [(.array .byte)], returnType := some .int }, accessFlags := 9, code := some k11c5 }
def k11c6 : Code := { maxStack := 4, maxLocals := 5, code := jdk_52_method_14_code, exceptionTable := #[], attributes := #[] }
def k11m6 : Method := { name := "toBytes", desc := "([CII)[B", sig := { parameters := [(.array .char), .int, .int], returnType := some (.array .byte) }, accessFlags := 9, code := some k11c6 }
def k11c7 : Code := { maxStack := 2, maxLocals := 2, code := jdk_52_method_15_code, exceptionTable := #[], attributes := #[] }
def k11m7 : Method := { name := "coderFromArrayLen", desc := "([BI)B", sig := { parameters := [(.array .byte), .int], returnType := some .byte }, accessFlags := 8, code := some k11c7 }
def k11c8 : Code := { maxStack := 5, maxLocals := 6, code := jdk_52_method_16_code, exceptionTable := #[], attributes := #[] }
def k11m8 : Method := { name := "compress", desc := "([CII)[B", sig := { parameters := [(.array .char), .int, .int], returnType := some (.array .byte) }, accessFlags := 9, code := some k11c8 }
def k11c9 : Code := { maxStack := 3, maxLocals := 7, code := jdk_52_method_21_code, exceptionTable := #[], attributes := #[] }
def k11m9 : Method := { name := "compress", desc := "([CI[BII)I", sig := { parameters := [(.array .char), .int, (.array .byte), .int, .int], returnType := some .int }, accessFlags := 9, code := some k11c9 }
def k11c10 : Code := { maxStack := 4, maxLocals := 4, code := jdk_52_method_40_code, exceptionTable := #[], attributes := #[] }
def k11m10 : Method := { name := "indexOf", desc := "([BIII)I", sig := { parameters := [(.array .byte), .int, .int, .int], returnType := some .int }, accessFlags := 9, code := some k11c10 }
def k11c11 : Code := { maxStack := 4, maxLocals := 4, code := jdk_52_method_47_code, exceptionTable := #[], attributes := #[] }
def k11m11 : Method := { name := "indexOfChar", desc := "([BIII)I", sig := { parameters := [(.array .byte), .int, .int, .int], returnType := some .int }, accessFlags := 10, code := some k11c11 }
def k11c12 : Code := { maxStack := 2, maxLocals := 5, code := jdk_52_method_48_code, exceptionTable := #[], attributes := #[] }
def k11m12 : Method := { name := "indexOfCharUnsafe", desc := "([BIII)I", sig := { parameters := [(.array .byte), .int, .int, .int], returnType := some .int }, accessFlags := 10, code := some k11c12 }
def k11c13 : Code := { maxStack := 3, maxLocals := 3, code := jdk_52_method_93_code, exceptionTable := #[], attributes := #[] }
def k11m13 : Method := { name := "checkBoundsBeginEnd", desc := "(II[B)V", sig := { parameters := [.int, .int, (.array .byte)], returnType := none }, accessFlags := 9, code := some k11c13 }
/-- java/lang/StringUTF16 -/
def k11 : Class := { plain "java/lang/StringUTF16" (some 0) with
  accessFlags := 48
  interfaces := #[]
  cf := some (fileOf pool11 12 #[.nestMembers #[627, 629, 369]] #[{ accessFlags := 0, nameIndex := 9, descriptorIndex := 10, attributes := #[] }, { accessFlags := 9, nameIndex := 109, descriptorIndex := 110, attributes := #[] }, { accessFlags := 9, nameIndex := 15, descriptorIndex := 16, attributes := #[] }, { accessFlags := 8, nameIndex := 113, descriptorIndex := 114, attributes := #[] }, { accessFlags := 8, nameIndex := 73, descriptorIndex := 74, attributes := #[] }, { accessFlags := 9, nameIndex := 50, descriptorIndex := 51, attributes := #[] }, { accessFlags := 9, nameIndex := 121, descriptorIndex := 122, attributes := #[] }, { accessFlags := 8, nameIndex := 261, descriptorIndex := 262, attributes := #[] }, { accessFlags := 9, nameIndex := 117, descriptorIndex := 122, attributes := #[] }, { accessFlags := 9, nameIndex := 117, descriptorIndex := 118, attributes := #[] }, { accessFlags := 9, nameIndex := 268, descriptorIndex := 231, attributes := #[] }, { accessFlags := 10, nameIndex := 230, descriptorIndex := 231, attributes := #[] }, { accessFlags := 10, nameIndex := 246, descriptorIndex := 231, attributes := #[] }, { accessFlags := 9, nameIndex := 98, descriptorIndex := 99, attributes := #[] }] 48 6 #[] #[{ accessFlags := 26, nameIndex := 61, descriptorIndex := 62, attributes := #[] }, { accessFlags := 26, nameIndex := 65, descriptorIndex := 62, attributes := #[] }, { accessFlags := 24, nameIndex := 430, descriptorIndex := 62, attributes := #[] }, { accessFlags := 4120, nameIndex := 46, descriptorIndex := 47, attributes := #[] }])
  fields := #[{ name := "HI_BYTE_SHIFT", type := .int, accessFlags := 26, slot := 0, constantValue := 0 }, { name := "LO_BYTE_SHIFT", type := .int, accessFlags := 26, slot := 1, constantValue := 0 }, { name := "MAX_LENGTH", type := .int, accessFlags := 24, slot := 2, constantValue := 0 }, { name := "$assertionsDisabled", type := .boolean, accessFlags := 4120, slot := 3, constantValue := 0 }]
  methods := #[k11m0, k11m1, k11m2, k11m3, k11m4, k11m5, k11m6, k11m7, k11m8, k11m9, k11m10, k11m11, k11m12, k11m13]
  instanceTypes := #[]
  staticTypes := #[.int, .int, .int, .boolean]
  resolved := Array.replicate 635 none
  statics := some 1 }

def pool12 : Array CpInfo := pool [(2, .class_ 4), (1, u "java/lang/Object"), (0, u "<init>"), (0, u "()V"), (17, .class_ 26), (1, u "jdk/internal/util/Preconditions"), (20, u "checkFromToIndex"), (7, .class_ 56), (0, u "jdk/internal/util/Preconditions$4"), (57, .class_ 115), (0, u "jdk/internal/util/Preconditions$1"), (7, u "SIOOBE_FORMATTER"), (0, u "Ljava/util/function/BiFunction;"), (0, .class_ 126), (0, u "jdk/internal/util/Preconditions$2"), (3, u "AIOOBE_FORMATTER"), (0, .class_ 132), (0, u "jdk/internal/util/Preconditions$3"), (3, u "IOOBE_FORMATTER"), (46, u "(IIILjava/util/function/BiFunction;)I")] 10

def k12m0 : Method := { name := "<init>", desc := "()V", sig := { parameters := [], returnType := none }, accessFlags := 1, code := none }
def k12c1 : Code := { maxStack := 4, maxLocals := 4, code := jdk_41_method_12_code, exceptionTable := #[], attributes := #[] }
def k12m1 : Method := { name := "checkFromToIndex", desc := "(IIILjava/util/function/BiFunction;)I", sig := { parameters := [.int, .int, .int, (.object "java/util/function/BiFunction")], returnType := some .int }, accessFlags := 9, code := some k12c1 }
/-- jdk/internal/util/Preconditions -/
def k12 : Class := { plain "jdk/internal/util/Preconditions" (some 0) with
  accessFlags := 33
  interfaces := #[]
  cf := some (fileOf pool12 24 #[.nestMembers #[55, 131, 125, 114]] #[{ accessFlags := 1, nameIndex := 5, descriptorIndex := 6, attributes := #[] }, { accessFlags := 9, nameIndex := 47, descriptorIndex := 183, attributes := #[] }] 33 2 #[] #[{ accessFlags := 25, nameIndex := 123, descriptorIndex := 124, attributes := #[] }, { accessFlags := 25, nameIndex := 130, descriptorIndex := 124, attributes := #[] }, { accessFlags := 25, nameIndex := 136, descriptorIndex := 124, attributes := #[] }])
  fields := #[{ name := "SIOOBE_FORMATTER", type := (.object "java/util/function/BiFunction"), accessFlags := 25, slot := 0, constantValue := 0 }, { name := "AIOOBE_FORMATTER", type := (.object "java/util/function/BiFunction"), accessFlags := 25, slot := 1, constantValue := 0 }, { name := "IOOBE_FORMATTER", type := (.object "java/util/function/BiFunction"), accessFlags := 25, slot := 2, constantValue := 0 }]
  methods := #[k12m0, k12m1]
  instanceTypes := #[]
  staticTypes := #[(.object "java/util/function/BiFunction"), (.object "java/util/function/BiFunction"), (.object "java/util/function/BiFunction")]
  resolved := Array.replicate 194 none
  statics := some 2 }

def pool13 : Array CpInfo := pool [(9, u "<init>"), (6, .class_ 18), (1, u "java/lang/Object"), (0, u "()V"), (1, .class_ 23), (1, u "jdk/internal/util/ArraysSupport"), (0, u "LOG2_ARRAY_LONG_INDEX_SCALE"), (0, u "I"), (2, u "U"), (0, u "Ljdk/internal/misc/Unsafe;"), (8, u "BIG_ENDIAN"), (0, u "Z"), (8, u "LOG2_BYTE_BIT_SIZE"), (4, u "LOG2_ARRAY_INT_INDEX_SCALE"), (54, u "JLA"), (0, u "Ljdk/internal/access/JavaLangAccess;"), (11, u "LOG2_ARRAY_BOOLEAN_INDEX_SCALE"), (9, u "LOG2_ARRAY_BYTE_INDEX_SCALE"), (5, u "LOG2_ARRAY_CHAR_INDEX_SCALE"), (5, u "LOG2_ARRAY_SHORT_INDEX_SCALE"), (18, u "LOG2_ARRAY_FLOAT_INDEX_SCALE"), (24, u "LOG2_ARRAY_DOUBLE_INDEX_SCALE"), (89, u "T_BOOLEAN"), (2, u "T_CHAR"), (1, u "T_FLOAT"), (1, u "T_DOUBLE"), (1, u "T_BYTE"), (1, u "T_SHORT"), (1, u "T_INT"), (1, u "T_LONG"), (1, u "SOFT_MAX_ARRAY_LENGTH")] 83

def k13m0 : Method := { name := "<init>", desc := "()V", sig := { parameters := [], returnType := none }, accessFlags := 2, code := none }
/-- jdk/internal/util/ArraysSupport -/
def k13 : Class := { plain "jdk/internal/util/ArraysSupport" (some 0) with
  accessFlags := 33
  interfaces := #[]
  cf := some (fileOf pool13 21 #[] #[{ accessFlags := 2, nameIndex := 9, descriptorIndex := 19, attributes := #[] }] 33 16 #[] #[{ accessFlags := 24, nameIndex := 28, descriptorIndex := 29, attributes := #[] }, { accessFlags := 26, nameIndex := 38, descriptorIndex := 39, attributes := #[] }, { accessFlags := 25, nameIndex := 121, descriptorIndex := 25, attributes := #[] }, { accessFlags := 25, nameIndex := 131, descriptorIndex := 25, attributes := #[] }, { accessFlags := 25, nameIndex := 137, descriptorIndex := 25, attributes := #[] }, { accessFlags := 25, nameIndex := 143, descriptorIndex := 25, attributes := #[] }, { accessFlags := 25, nameIndex := 53, descriptorIndex := 25, attributes := #[] }, { accessFlags := 25, nameIndex := 24, descriptorIndex := 25, attributes := #[] }, { accessFlags := 25, nameIndex := 162, descriptorIndex := 25, attributes := #[] }, { accessFlags := 25, nameIndex := 187, descriptorIndex := 25, attributes := #[] }, { accessFlags := 26, nameIndex := 48, descriptorIndex := 25, attributes := #[] }, { accessFlags := 25, nameIndex := 277, descriptorIndex := 25, attributes := #[] }, { accessFlags := 25, nameIndex := 280, descriptorIndex := 25, attributes := #[] }, { accessFlags := 25, nameIndex := 282, descriptorIndex := 25, attributes := #[] }, { accessFlags := 25, nameIndex := 284, descriptorIndex := 25, attributes := #[] }, { accessFlags := 25, nameIndex := 286, descriptorIndex := 25, attributes := #[] }, { accessFlags := 25, nameIndex := 288, descriptorIndex := 25, attributes := #[] }, { accessFlags := 25, nameIndex := 290, descriptorIndex := 25, attributes := #[] }, { accessFlags := 25, nameIndex := 292, descriptorIndex := 25, attributes := #[] }, { accessFlags := 26, nameIndex := 108, descriptorIndex := 109, attributes := #[] }, { accessFlags := 25, nameIndex := 294, descriptorIndex := 25, attributes := #[] }])
  fields := #[{ name := "U", type := (.object "jdk/internal/misc/Unsafe"), accessFlags := 24, slot := 0, constantValue := 0 }, { name := "BIG_ENDIAN", type := .boolean, accessFlags := 26, slot := 1, constantValue := 0 }, { name := "LOG2_ARRAY_BOOLEAN_INDEX_SCALE", type := .int, accessFlags := 25, slot := 2, constantValue := 0 }, { name := "LOG2_ARRAY_BYTE_INDEX_SCALE", type := .int, accessFlags := 25, slot := 3, constantValue := 0 }, { name := "LOG2_ARRAY_CHAR_INDEX_SCALE", type := .int, accessFlags := 25, slot := 4, constantValue := 0 }, { name := "LOG2_ARRAY_SHORT_INDEX_SCALE", type := .int, accessFlags := 25, slot := 5, constantValue := 0 }, { name := "LOG2_ARRAY_INT_INDEX_SCALE", type := .int, accessFlags := 25, slot := 6, constantValue := 0 }, { name := "LOG2_ARRAY_LONG_INDEX_SCALE", type := .int, accessFlags := 25, slot := 7, constantValue := 0 }, { name := "LOG2_ARRAY_FLOAT_INDEX_SCALE", type := .int, accessFlags := 25, slot := 8, constantValue := 0 }, { name := "LOG2_ARRAY_DOUBLE_INDEX_SCALE", type := .int, accessFlags := 25, slot := 9, constantValue := 0 }, { name := "LOG2_BYTE_BIT_SIZE", type := .int, accessFlags := 26, slot := 10, constantValue := 0 }, { name := "T_BOOLEAN", type := .int, accessFlags := 25, slot := 11, constantValue := 0 }, { name := "T_CHAR", type := .int, accessFlags := 25, slot := 12, constantValue := 0 }, { name := "T_FLOAT", type := .int, accessFlags := 25, slot := 13, constantValue := 0 }, { name := "T_DOUBLE", type := .int, accessFlags := 25, slot := 14, constantValue := 0 }, { name := "T_BYTE", type := .int, accessFlags := 25, slot := 15, constantValue := 0 }, { name := "T_SHORT", type := .int, accessFlags := 25, slot := 16, constantValue := 0 }, { name := "T_INT", type := .int, accessFlags := 25, slot := 17, constantValue := 0 }, { name := "T_LONG", type := .int, accessFlags := 25, slot := 18, constantValue := 0 }, { name := "JLA", type := (.object "jdk/internal/access/JavaLangAccess"), accessFlags := 26, slot := 19, constantValue := 0 }, { name := "SOFT_MAX_ARRAY_LENGTH", type := .int, accessFlags := 25, slot := 20, constantValue := 0 }]
  methods := #[k13m0]
  instanceTypes := #[]
  staticTypes := #[(.object "jdk/internal/misc/Unsafe"), .boolean, .int, .int, .int, .int, .int, .int, .int, .int, .int, .int, .int, .int, .int, .int, .int, .int, .int, (.object "jdk/internal/access/JavaLangAccess"), .int]
  resolved := Array.replicate 378 none
  statics := none }

def pool14 : Array CpInfo := pool [(1, u "java/lang/Cloneable"), (0, .class_ 1), (0, u "java/lang/Object"), (0, .class_ 3)] 3

/-- java/lang/Cloneable -/
def k14 : Class := { plain "java/lang/Cloneable" (some 0) with
  accessFlags := 1537
  interfaces := #[]
  cf := some (fileOf pool14 2 #[] #[] 1537 4 #[] #[])
  fields := #[]
  methods := #[]
  instanceTypes := #[]
  staticTypes := #[]
  resolved := Array.replicate 8 none
  statics := none }

/-- the primitive byte -/
def k15 : Class := { plain "byte" none with kind := .primitive 'B', accessFlags := 0x411 }
/-- [B -/
def k16 : Class := { plain "[B" (some 0) with kind := .array 15 .byte, interfaces := #[14, 2], accessFlags := 1041 }

/-- the primitive char -/
def k17 : Class := { plain "char" none with kind := .primitive 'C', accessFlags := 0x411 }
/-- [C -/
def k18 : Class := { plain "[C" (some 0) with kind := .array 17 .char, interfaces := #[14, 2], accessFlags := 1041 }

/-- the primitive int -/
def k19 : Class := { plain "int" none with kind := .primitive 'I', accessFlags := 0x411 }
/-- [I -/
def k20 : Class := { plain "[I" (some 0) with kind := .array 19 .int, interfaces := #[14, 2], accessFlags := 1041 }

def heap : Heap := #[{ cls := 7, slots := #[.long 0, .int 1, .null, .int 0, .null, .int 0, .int 0], vm := .statics 7 },
  { cls := 11, slots := #[.int 0, .int 8, .int 0, .int 1], vm := .statics 11 },
  { cls := 12, slots := #[.null, .null, .null], vm := .statics 12 }]
def classes : Array Class := #[k0, k1, k2, k3, k4, k5, k6, k7, k8, k9, k10, k11, k12, k13, k14, k15, k16, k17, k18, k19, k20]
def interned : List (Array UInt16 × Addr) := []
def slotsUsed : Nat := 14
def theMethod : MethodId := ⟨1, 3⟩
def args0 : Array Value := #[.int 5, .int 6, .int 7, .int 1, .int 2]
def aboutOver (below : List Frame) : State where
  vm := { classes := classes, interned := interned.toArray }
  heap := heap
  slotsUsed := slotsUsed
  threads := #[{ frames := .invoking theMethod args0 :: below }]
def below0 : List Frame := [.native { method := ⟨0, 0⟩, args := #[] }]
def about1 : State := aboutOver below0
def p0 : Program := .bare "" "" ""
def e0 : Env := launch0.env 0 0 0
theorem w_frames : about1.frames = Frame.invoking theMethod args0 :: below0 := rfl
set_option maxRecDepth 65536 in
theorem w_args : argsFit about1.vm theMethod args0 = true := by decide +kernel
set_option maxRecDepth 65536 in
theorem w_heap : heapFits about1 = true := by decide +kernel
set_option maxRecDepth 65536 in
theorem w_runnable : about1.curStatus? = some .runnable := by decide +kernel
set_option maxRecDepth 65536 in
theorem w_alone : about1.alone = true := by decide +kernel
set_option maxRecDepth 65536 in
theorem w_named : about1.methodNamed? x = some theMethod := by decide +kernel
set_option maxRecDepth 65536 in
theorem w_hears : about1.hears theMethod below0 = true := by decide +kernel
set_option maxRecDepth 65536 in
theorem w_ripe : about1.ripe theMethod args0 below0 = true := by decide +kernel
theorem w_running : about1.status = .running := rfl
set_option maxRecDepth 65536 in
theorem w_room : about1.hasRoom e0.platform room_1 = true :=
  launch0.hasRoom_least _ room_1 (by decide +kernel) (by decide +kernel) (by decide +kernel) (by decide +kernel) (by decide +kernel) (by decide +kernel)
theorem allAtoms_all (ts : List Jvm.Cond) (a : Array Jvm.Value) (st : Jvm.State) : (allAtoms ts).before a st = ts.all (fun c => c.before a st) := by
  induction ts with
  | nil => rfl
  | cons c t ih =>
    show (Jvm.Cond.and c (allAtoms t)).before a st = _
    rw [Jvm.Cond.before_and, ih, List.all_cons]
def words1 : List Jvm.Cond := Jvm.Cond.code x code maxLocals ret :: tables_1
/-- a 'code' word, met by the world's own term for the bytes: nothing is compared byte by byte -/
theorem code_word {y : MethodName} {bytes : ByteArray} {mx : Nat} {rt : Option FieldType} {a : Array Value} {s : State} {m : MethodId} {meth : Method} {c : Code} (h1 : s.methodNamed? y = some m) (h2 : s.vm.method? m = some meth) (h3 : meth.code = some c) (h4 : c.code = bytes)
    (h5 : (c.maxLocals == mx && c.exceptionTable.isEmpty && decide (c.maxStack ≤ mostOperands) && decide (meth.sig.returnType = rt) && !meth.locks && decide (parseMethodDescriptor y.desc = some meth.sig)) = true) : (Jvm.Cond.code y bytes mx rt).before a s = true := by
  simp only [Bool.and_eq_true, beq_iff_eq, Bool.not_eq_true', decide_eq_true_eq] at h5
  obtain ⟨⟨⟨⟨⟨g1, g2⟩, g3⟩, g4⟩, g5⟩, g6⟩ := h5
  simp [Cond.before, Cond.holds, Cond.value, h1, h2, h3, h4, g1, g2, g3, g4, g5, g6]
def isCode : Jvm.Cond → Bool
  | .code _ _ _ _ => true
  | _ => false
theorem all_split {L : List Jvm.Cond} {P : Jvm.Cond → Bool} (h1 : L.all (fun c => isCode c || P c) = true) (h2 : ∀ c ∈ L.filter isCode, P c = true) : L.all P = true := by
  refine List.all_eq_true.mpr fun c hc => ?_
  have h := List.all_eq_true.mp h1 c hc
  rcases Bool.eq_false_or_eq_true (isCode c) with hi | hi
  · exact h2 c (List.mem_filter.mpr ⟨hc, hi⟩)
  · simpa [hi] using h
set_option maxRecDepth 65536 in
theorem w_c0 : (Jvm.Cond.code x code maxLocals ret).before args0 about1 = true := code_word (m := ⟨1, 3⟩) (meth := k1m3) (c := k1c3) (by decide +kernel) rfl rfl rfl (by decide +kernel)
set_option maxRecDepth 65536 in
theorem w_c1 : (Jvm.Cond.code ({ cls := "com/example/grantline/grantline/GlobIsLiteralPinLaw", name := "ch", desc := "(I)C" } : Jvm.MethodName) method_2_code (2 : Nat) (Option.some Jvm.ClassFile.FieldType.char)).before args0 about1 = true := code_word (m := ⟨1, 1⟩) (meth := k1m1) (c := k1c1) (by decide +kernel) rfl rfl rfl (by decide +kernel)
set_option maxRecDepth 65536 in
theorem w_c2 : (Jvm.Cond.code ({ cls := "java/lang/String", name := "<init>", desc := "([C)V" } : Jvm.MethodName) jdk_42_method_3_code (2 : Nat) (Option.none : Option Jvm.ClassFile.FieldType)).before args0 about1 = true := code_word (m := ⟨7, 1⟩) (meth := k7m1) (c := k7c1) (by decide +kernel) rfl rfl rfl (by decide +kernel)
set_option maxRecDepth 65536 in
theorem w_c3 : (Jvm.Cond.code ({ cls := "java/lang/String", name := "<init>", desc := "([CIILjava/lang/Void;)V" } : Jvm.MethodName) jdk_42_method_149_code (6 : Nat) (Option.none : Option Jvm.ClassFile.FieldType)).before args0 about1 = true := code_word (m := ⟨7, 5⟩) (meth := k7m5) (c := k7c5) (by decide +kernel) rfl rfl rfl (by decide +kernel)
set_option maxRecDepth 65536 in
theorem w_c4 : (Jvm.Cond.code ({ cls := "java/lang/Object", name := "<init>", desc := "()V" } : Jvm.MethodName) object_method_1_code (1 : Nat) (Option.none : Option Jvm.ClassFile.FieldType)).before args0 about1 = true := code_word (m := ⟨0, 0⟩) (meth := k0m0) (c := k0c0) (by decide +kernel) rfl rfl rfl (by decide +kernel)
set_option maxRecDepth 65536 in
theorem w_c5 : (Jvm.Cond.code ({ cls := "com/example/grantline/grantline/Glob", name := "isLiteral", desc := "(Ljava/lang/String;)Z" } : Jvm.MethodName) prog_12_method_3_code (1 : Nat) (Option.some Jvm.ClassFile.FieldType.boolean)).before args0 about1 = true := code_word (m := ⟨8, 1⟩) (meth := k8m1) (c := k8c1) (by decide +kernel) rfl rfl rfl (by decide +kernel)
set_option maxRecDepth 65536 in
theorem w_c6 : (Jvm.Cond.code ({ cls := "java/lang/String", name := "indexOf", desc := "(I)I" } : Jvm.MethodName) jdk_42_method_79_code (2 : Nat) (Option.some Jvm.ClassFile.FieldType.int)).before args0 about1 = true := code_word (m := ⟨7, 3⟩) (meth := k7m3) (c := k7c3) (by decide +kernel) rfl rfl rfl (by decide +kernel)
set_option maxRecDepth 65536 in
theorem w_c7 : (Jvm.Cond.code ({ cls := "java/lang/String", name := "indexOf", desc := "(II)I" } : Jvm.MethodName) jdk_42_method_80_code (3 : Nat) (Option.some Jvm.ClassFile.FieldType.int)).before args0 about1 = true := code_word (m := ⟨7, 4⟩) (meth := k7m4) (c := k7c4) (by decide +kernel) rfl rfl rfl (by decide +kernel)
set_option maxRecDepth 65536 in
theorem w_c8 : (Jvm.Cond.code ({ cls := "java/lang/String", name := "isLatin1", desc := "()Z" } : Jvm.MethodName) jdk_42_method_154_code (1 : Nat) (Option.some Jvm.ClassFile.FieldType.boolean)).before args0 about1 = true := code_word (m := ⟨7, 7⟩) (meth := k7m7) (c := k7c7) (by decide +kernel) rfl rfl rfl (by decide +kernel)
set_option maxRecDepth 65536 in
theorem w_c9 : (Jvm.Cond.code ({ cls := "java/lang/String", name := "length", desc := "()I" } : Jvm.MethodName) jdk_42_method_54_code (1 : Nat) (Option.some Jvm.ClassFile.FieldType.int)).before args0 about1 = true := code_word (m := ⟨7, 2⟩) (meth := k7m2) (c := k7c2) (by decide +kernel) rfl rfl rfl (by decide +kernel)
set_option maxRecDepth 65536 in
theorem w_c10 : (Jvm.Cond.code ({ cls := "java/lang/String", name := "coder", desc := "()B" } : Jvm.MethodName) jdk_42_method_152_code (1 : Nat) (Option.some Jvm.ClassFile.FieldType.byte)).before args0 about1 = true := code_word (m := ⟨7, 6⟩) (meth := k7m6) (c := k7c6) (by decide +kernel) rfl rfl rfl (by decide +kernel)
set_option maxRecDepth 65536 in
theorem w_c11 : (Jvm.Cond.code ({ cls := "java/lang/StringLatin1", name := "indexOf", desc := "([BIII)I" } : Jvm.MethodName) jdk_43_method_22_code (4 : Nat) (Option.some Jvm.ClassFile.FieldType.int)).before args0 about1 = true := code_word (m := ⟨9, 2⟩) (meth := k9m2) (c := k9c2) (by decide +kernel) rfl rfl rfl (by decide +kernel)
set_option maxRecDepth 65536 in
theorem w_c12 : (Jvm.Cond.code ({ cls := "java/lang/StringLatin1", name := "canEncode", desc := "(I)Z" } : Jvm.MethodName) jdk_43_method_4_code (1 : Nat) (Option.some Jvm.ClassFile.FieldType.boolean)).before args0 about1 = true := code_word (m := ⟨9, 1⟩) (meth := k9m1) (c := k9c1) (by decide +kernel) rfl rfl rfl (by decide +kernel)
set_option maxRecDepth 65536 in
theorem w_c13 : (Jvm.Cond.code ({ cls := "java/lang/Math", name := "max", desc := "(II)I" } : Jvm.MethodName) jdk_29_method_65_code (2 : Nat) (Option.some Jvm.ClassFile.FieldType.int)).before args0 about1 = true := code_word (m := ⟨10, 1⟩) (meth := k10m1) (c := k10c1) (by decide +kernel) rfl rfl rfl (by decide +kernel)
set_option maxRecDepth 65536 in
theorem w_c14 : (Jvm.Cond.code ({ cls := "java/lang/Math", name := "min", desc := "(II)I" } : Jvm.MethodName) jdk_29_method_69_code (2 : Nat) (Option.some Jvm.ClassFile.FieldType.int)).before args0 about1 = true := code_word (m := ⟨10, 2⟩) (meth := k10m2) (c := k10c2) (by decide +kernel) rfl rfl rfl (by decide +kernel)
set_option maxRecDepth 65536 in
theorem w_c15 : (Jvm.Cond.code ({ cls := "com/example/grantline/grantline/GlobIsLiteralPinLaw", name := "wild", desc := "(C)Z" } : Jvm.MethodName) method_3_code (1 : Nat) (Option.some Jvm.ClassFile.FieldType.boolean)).before args0 about1 = true := code_word (m := ⟨1, 2⟩) (meth := k1m2) (c := k1c2) (by decide +kernel) rfl rfl rfl (by decide +kernel)
set_option maxRecDepth 65536 in
theorem w_c16 : (Jvm.Cond.code ({ cls := "java/lang/StringUTF16", name := "compress", desc := "([CII)[B" } : Jvm.MethodName) jdk_52_method_16_code (6 : Nat) (Option.some (Jvm.ClassFile.FieldType.array Jvm.ClassFile.FieldType.byte))).before args0 about1 = true := code_word (m := ⟨11, 8⟩) (meth := k11m8) (c := k11c8) (by decide +kernel) rfl rfl rfl (by decide +kernel)
set_option maxRecDepth 65536 in
theorem w_c17 : (Jvm.Cond.code ({ cls := "java/lang/StringUTF16", name := "compress", desc := "([CI[BII)I" } : Jvm.MethodName) jdk_52_method_21_code (7 : Nat) (Option.some Jvm.ClassFile.FieldType.int)).before args0 about1 = true := code_word (m := ⟨11, 9⟩) (meth := k11m9) (c := k11c9) (by decide +kernel) rfl rfl rfl (by decide +kernel)
set_option maxRecDepth 65536 in
theorem w_c18 : (Jvm.Cond.code ({ cls := "java/lang/StringUTF16", name := "coderFromArrayLen", desc := "([BI)B" } : Jvm.MethodName) jdk_52_method_15_code (2 : Nat) (Option.some Jvm.ClassFile.FieldType.byte)).before args0 about1 = true := code_word (m := ⟨11, 7⟩) (meth := k11m7) (c := k11c7) (by decide +kernel) rfl rfl rfl (by decide +kernel)
set_option maxRecDepth 65536 in
theorem w_c19 : (Jvm.Cond.code ({ cls := "java/lang/StringLatin1", name := "indexOfChar", desc := "([BIII)I" } : Jvm.MethodName) jdk_43_method_23_code (6 : Nat) (Option.some Jvm.ClassFile.FieldType.int)).before args0 about1 = true := code_word (m := ⟨9, 3⟩) (meth := k9m3) (c := k9c3) (by decide +kernel) rfl rfl rfl (by decide +kernel)
set_option maxRecDepth 65536 in
theorem w_c20 : (Jvm.Cond.code ({ cls := "java/lang/StringUTF16", name := "toBytes", desc := "([CII)[B" } : Jvm.MethodName) jdk_52_method_14_code (5 : Nat) (Option.some (Jvm.ClassFile.FieldType.array Jvm.ClassFile.FieldType.byte))).before args0 about1 = true := code_word (m := ⟨11, 6⟩) (meth := k11m6) (c := k11c6) (by decide +kernel) rfl rfl rfl (by decide +kernel)
set_option maxRecDepth 65536 in
theorem w_c21 : (Jvm.Cond.code ({ cls := "java/lang/StringUTF16", name := "newBytesFor", desc := "(I)[B" } : Jvm.MethodName) jdk_52_method_2_code (1 : Nat) (Option.some (Jvm.ClassFile.FieldType.array Jvm.ClassFile.FieldType.byte))).before args0 about1 = true := code_word (m := ⟨11, 1⟩) (meth := k11m1) (c := k11c1) (by decide +kernel) rfl rfl rfl (by decide +kernel)
set_option maxRecDepth 65536 in
theorem w_c22 : (Jvm.Cond.code ({ cls := "java/lang/StringUTF16", name := "newBytesLength", desc := "(I)I" } : Jvm.MethodName) jdk_52_method_3_code (1 : Nat) (Option.some Jvm.ClassFile.FieldType.int)).before args0 about1 = true := code_word (m := ⟨11, 2⟩) (meth := k11m2) (c := k11c2) (by decide +kernel) rfl rfl rfl (by decide +kernel)
set_option maxRecDepth 65536 in
theorem w_c23 : (Jvm.Cond.code ({ cls := "java/lang/StringUTF16", name := "putChar", desc := "([BII)V" } : Jvm.MethodName) jdk_52_method_4_code (3 : Nat) (Option.none : Option Jvm.ClassFile.FieldType)).before args0 about1 = true := code_word (m := ⟨11, 3⟩) (meth := k11m3) (c := k11c3) (by decide +kernel) rfl rfl rfl (by decide +kernel)
set_option maxRecDepth 65536 in
theorem w_c24 : (Jvm.Cond.code ({ cls := "java/lang/StringUTF16", name := "getChar", desc := "([BI)C" } : Jvm.MethodName) jdk_52_method_5_code (2 : Nat) (Option.some Jvm.ClassFile.FieldType.char)).before args0 about1 = true := code_word (m := ⟨11, 4⟩) (meth := k11m4) (c := k11c4) (by decide +kernel) rfl rfl rfl (by decide +kernel)
set_option maxRecDepth 65536 in
theorem w_c25 : (Jvm.Cond.code ({ cls := "java/lang/StringUTF16", name := "indexOf", desc := "([BIII)I" } : Jvm.MethodName) jdk_52_method_40_code (4 : Nat) (Option.some Jvm.ClassFile.FieldType.int)).before args0 about1 = true := code_word (m := ⟨11, 10⟩) (meth := k11m10) (c := k11c10) (by decide +kernel) rfl rfl rfl (by decide +kernel)
set_option maxRecDepth 65536 in
theorem w_c26 : (Jvm.Cond.code ({ cls := "java/lang/StringUTF16", name := "indexOfChar", desc := "([BIII)I" } : Jvm.MethodName) jdk_52_method_47_code (4 : Nat) (Option.some Jvm.ClassFile.FieldType.int)).before args0 about1 = true := code_word (m := ⟨11, 11⟩) (meth := k11m11) (c := k11c11) (by decide +kernel) rfl rfl rfl (by decide +kernel)
set_option maxRecDepth 65536 in
theorem w_c27 : (Jvm.Cond.code ({ cls := "java/lang/StringUTF16", name := "checkBoundsBeginEnd", desc := "(II[B)V" } : Jvm.MethodName) jdk_52_method_93_code (3 : Nat) (Option.none : Option Jvm.ClassFile.FieldType)).before args0 about1 = true := code_word (m := ⟨11, 13⟩) (meth := k11m13) (c := k11c13) (by decide +kernel) rfl rfl rfl (by decide +kernel)
set_option maxRecDepth 65536 in
theorem w_c28 : (Jvm.Cond.code ({ cls := "java/lang/StringUTF16", name := "length", desc := "([B)I" } : Jvm.MethodName) jdk_52_method_6_code (1 : Nat) (Option.some Jvm.ClassFile.FieldType.int)).before args0 about1 = true := code_word (m := ⟨11, 5⟩) (meth := k11m5) (c := k11c5) (by decide +kernel) rfl rfl rfl (by decide +kernel)
set_option maxRecDepth 65536 in
theorem w_c29 : (Jvm.Cond.code ({ cls := "java/lang/String", name := "checkBoundsBeginEnd", desc := "(III)V" } : Jvm.MethodName) jdk_42_method_158_code (3 : Nat) (Option.none : Option Jvm.ClassFile.FieldType)).before args0 about1 = true := code_word (m := ⟨7, 8⟩) (meth := k7m8) (c := k7c8) (by decide +kernel) rfl rfl rfl (by decide +kernel)
set_option maxRecDepth 65536 in
theorem w_c30 : (Jvm.Cond.code ({ cls := "jdk/internal/util/Preconditions", name := "checkFromToIndex", desc := "(IIILjava/util/function/BiFunction;)I" } : Jvm.MethodName) jdk_41_method_12_code (4 : Nat) (Option.some Jvm.ClassFile.FieldType.int)).before args0 about1 = true := code_word (m := ⟨12, 1⟩) (meth := k12m1) (c := k12c1) (by decide +kernel) rfl rfl rfl (by decide +kernel)
set_option maxRecDepth 65536 in
theorem w_c31 : (Jvm.Cond.code ({ cls := "java/lang/StringUTF16", name := "indexOfCharUnsafe", desc := "([BIII)I" } : Jvm.MethodName) jdk_52_method_48_code (5 : Nat) (Option.some Jvm.ClassFile.FieldType.int)).before args0 about1 = true := code_word (m := ⟨11, 12⟩) (meth := k11m12) (c := k11c12) (by decide +kernel) rfl rfl rfl (by decide +kernel)
def codes1 : List Jvm.Cond := [Jvm.Cond.code x code maxLocals ret, Jvm.Cond.code ({ cls := "com/example/grantline/grantline/GlobIsLiteralPinLaw", name := "ch", desc := "(I)C" } : Jvm.MethodName) method_2_code (2 : Nat) (Option.some Jvm.ClassFile.FieldType.char), Jvm.Cond.code ({ cls := "java/lang/String", name := "<init>", desc := "([C)V" } : Jvm.MethodName) jdk_42_method_3_code (2 : Nat) (Option.none : Option Jvm.ClassFile.FieldType), Jvm.Cond.code ({ cls := "java/lang/String", name := "<init>", desc := "([CIILjava/lang/Void;)V" } : Jvm.MethodName) jdk_42_method_149_code (6 : Nat) (Option.none : Option Jvm.ClassFile.FieldType), Jvm.Cond.code ({ cls := "java/lang/Object", name := "<init>", desc := "()V" } : Jvm.MethodName) object_method_1_code (1 : Nat) (Option.none : Option Jvm.ClassFile.FieldType), Jvm.Cond.code ({ cls := "com/example/grantline/grantline/Glob", name := "isLiteral", desc := "(Ljava/lang/String;)Z" } : Jvm.MethodName) prog_12_method_3_code (1 : Nat) (Option.some Jvm.ClassFile.FieldType.boolean), Jvm.Cond.code ({ cls := "java/lang/String", name := "indexOf", desc := "(I)I" } : Jvm.MethodName) jdk_42_method_79_code (2 : Nat) (Option.some Jvm.ClassFile.FieldType.int), Jvm.Cond.code ({ cls := "java/lang/String", name := "indexOf", desc := "(II)I" } : Jvm.MethodName) jdk_42_method_80_code (3 : Nat) (Option.some Jvm.ClassFile.FieldType.int), Jvm.Cond.code ({ cls := "java/lang/String", name := "isLatin1", desc := "()Z" } : Jvm.MethodName) jdk_42_method_154_code (1 : Nat) (Option.some Jvm.ClassFile.FieldType.boolean), Jvm.Cond.code ({ cls := "java/lang/String", name := "length", desc := "()I" } : Jvm.MethodName) jdk_42_method_54_code (1 : Nat) (Option.some Jvm.ClassFile.FieldType.int), Jvm.Cond.code ({ cls := "java/lang/String", name := "coder", desc := "()B" } : Jvm.MethodName) jdk_42_method_152_code (1 : Nat) (Option.some Jvm.ClassFile.FieldType.byte), Jvm.Cond.code ({ cls := "java/lang/StringLatin1", name := "indexOf", desc := "([BIII)I" } : Jvm.MethodName) jdk_43_method_22_code (4 : Nat) (Option.some Jvm.ClassFile.FieldType.int), Jvm.Cond.code ({ cls := "java/lang/StringLatin1", name := "canEncode", desc := "(I)Z" } : Jvm.MethodName) jdk_43_method_4_code (1 : Nat) (Option.some Jvm.ClassFile.FieldType.boolean), Jvm.Cond.code ({ cls := "java/lang/Math", name := "max", desc := "(II)I" } : Jvm.MethodName) jdk_29_method_65_code (2 : Nat) (Option.some Jvm.ClassFile.FieldType.int), Jvm.Cond.code ({ cls := "java/lang/Math", name := "min", desc := "(II)I" } : Jvm.MethodName) jdk_29_method_69_code (2 : Nat) (Option.some Jvm.ClassFile.FieldType.int), Jvm.Cond.code ({ cls := "com/example/grantline/grantline/GlobIsLiteralPinLaw", name := "wild", desc := "(C)Z" } : Jvm.MethodName) method_3_code (1 : Nat) (Option.some Jvm.ClassFile.FieldType.boolean), Jvm.Cond.code ({ cls := "java/lang/StringUTF16", name := "compress", desc := "([CII)[B" } : Jvm.MethodName) jdk_52_method_16_code (6 : Nat) (Option.some (Jvm.ClassFile.FieldType.array Jvm.ClassFile.FieldType.byte)), Jvm.Cond.code ({ cls := "java/lang/StringUTF16", name := "compress", desc := "([CI[BII)I" } : Jvm.MethodName) jdk_52_method_21_code (7 : Nat) (Option.some Jvm.ClassFile.FieldType.int), Jvm.Cond.code ({ cls := "java/lang/StringUTF16", name := "coderFromArrayLen", desc := "([BI)B" } : Jvm.MethodName) jdk_52_method_15_code (2 : Nat) (Option.some Jvm.ClassFile.FieldType.byte), Jvm.Cond.code ({ cls := "java/lang/StringLatin1", name := "indexOfChar", desc := "([BIII)I" } : Jvm.MethodName) jdk_43_method_23_code (6 : Nat) (Option.some Jvm.ClassFile.FieldType.int), Jvm.Cond.code ({ cls := "java/lang/StringUTF16", name := "toBytes", desc := "([CII)[B" } : Jvm.MethodName) jdk_52_method_14_code (5 : Nat) (Option.some (Jvm.ClassFile.FieldType.array Jvm.ClassFile.FieldType.byte)), Jvm.Cond.code ({ cls := "java/lang/StringUTF16", name := "newBytesFor", desc := "(I)[B" } : Jvm.MethodName) jdk_52_method_2_code (1 : Nat) (Option.some (Jvm.ClassFile.FieldType.array Jvm.ClassFile.FieldType.byte)), Jvm.Cond.code ({ cls := "java/lang/StringUTF16", name := "newBytesLength", desc := "(I)I" } : Jvm.MethodName) jdk_52_method_3_code (1 : Nat) (Option.some Jvm.ClassFile.FieldType.int), Jvm.Cond.code ({ cls := "java/lang/StringUTF16", name := "putChar", desc := "([BII)V" } : Jvm.MethodName) jdk_52_method_4_code (3 : Nat) (Option.none : Option Jvm.ClassFile.FieldType), Jvm.Cond.code ({ cls := "java/lang/StringUTF16", name := "getChar", desc := "([BI)C" } : Jvm.MethodName) jdk_52_method_5_code (2 : Nat) (Option.some Jvm.ClassFile.FieldType.char), Jvm.Cond.code ({ cls := "java/lang/StringUTF16", name := "indexOf", desc := "([BIII)I" } : Jvm.MethodName) jdk_52_method_40_code (4 : Nat) (Option.some Jvm.ClassFile.FieldType.int), Jvm.Cond.code ({ cls := "java/lang/StringUTF16", name := "indexOfChar", desc := "([BIII)I" } : Jvm.MethodName) jdk_52_method_47_code (4 : Nat) (Option.some Jvm.ClassFile.FieldType.int), Jvm.Cond.code ({ cls := "java/lang/StringUTF16", name := "checkBoundsBeginEnd", desc := "(II[B)V" } : Jvm.MethodName) jdk_52_method_93_code (3 : Nat) (Option.none : Option Jvm.ClassFile.FieldType), Jvm.Cond.code ({ cls := "java/lang/StringUTF16", name := "length", desc := "([B)I" } : Jvm.MethodName) jdk_52_method_6_code (1 : Nat) (Option.some Jvm.ClassFile.FieldType.int), Jvm.Cond.code ({ cls := "java/lang/String", name := "checkBoundsBeginEnd", desc := "(III)V" } : Jvm.MethodName) jdk_42_method_158_code (3 : Nat) (Option.none : Option Jvm.ClassFile.FieldType), Jvm.Cond.code ({ cls := "jdk/internal/util/Preconditions", name := "checkFromToIndex", desc := "(IIILjava/util/function/BiFunction;)I" } : Jvm.MethodName) jdk_41_method_12_code (4 : Nat) (Option.some Jvm.ClassFile.FieldType.int), Jvm.Cond.code ({ cls := "java/lang/StringUTF16", name := "indexOfCharUnsafe", desc := "([BIII)I" } : Jvm.MethodName) jdk_52_method_48_code (5 : Nat) (Option.some Jvm.ClassFile.FieldType.int)]
set_option maxRecDepth 65536 in
theorem codes_eq : words1.filter isCode = codes1 := rfl
theorem w_codes : ∀ c ∈ words1.filter isCode, c.before args0 about1 = true := by
  rw [codes_eq]
  intro c hc
  simp only [codes1, List.mem_cons, List.not_mem_nil, or_false] at hc
  rcases hc with rfl | rfl | rfl | rfl | rfl | rfl | rfl | rfl | rfl | rfl | rfl | rfl | rfl | rfl | rfl | rfl | rfl | rfl | rfl | rfl | rfl | rfl | rfl | rfl | rfl | rfl | rfl | rfl | rfl | rfl | rfl | rfl
  · exact w_c0
  · exact w_c1
  · exact w_c2
  · exact w_c3
  · exact w_c4
  · exact w_c5
  · exact w_c6
  · exact w_c7
  · exact w_c8
  · exact w_c9
  · exact w_c10
  · exact w_c11
  · exact w_c12
  · exact w_c13
  · exact w_c14
  · exact w_c15
  · exact w_c16
  · exact w_c17
  · exact w_c18
  · exact w_c19
  · exact w_c20
  · exact w_c21
  · exact w_c22
  · exact w_c23
  · exact w_c24
  · exact w_c25
  · exact w_c26
  · exact w_c27
  · exact w_c28
  · exact w_c29
  · exact w_c30
  · exact w_c31
set_option maxRecDepth 65536 in
theorem w_t1 : (words1.take 24).all (fun c => isCode c || c.before args0 about1) = true := by decide +kernel
set_option maxRecDepth 65536 in
theorem w_t2 : ((words1.drop 24).take 24).all (fun c => isCode c || c.before args0 about1) = true := by decide +kernel
set_option maxRecDepth 65536 in
theorem w_t3 : (((words1.drop 24).drop 24).take 24).all (fun c => isCode c || c.before args0 about1) = true := by decide +kernel
set_option maxRecDepth 65536 in
theorem w_t4 : ((((words1.drop 24).drop 24).drop 24).take 24).all (fun c => isCode c || c.before args0 about1) = true := by decide +kernel
set_option maxRecDepth 65536 in
theorem w_t5 : (((((words1.drop 24).drop 24).drop 24).drop 24).take 24).all (fun c => isCode c || c.before args0 about1) = true := by decide +kernel
set_option maxRecDepth 65536 in
theorem w_t6 : (((((words1.drop 24).drop 24).drop 24).drop 24).drop 24).all (fun c => isCode c || c.before args0 about1) = true := by decide +kernel
theorem w_tables : (allAtoms (Jvm.Cond.code x code maxLocals ret :: tables_1)).before args0 about1 = true := by
  rw [allAtoms_all]
  show words1.all (fun c => c.before args0 about1) = true
  refine all_split ?_ w_codes
  rw [← List.take_append_drop 24 words1, List.all_append, w_t1, ← List.take_append_drop 24 (words1.drop 24), List.all_append, w_t2, ← List.take_append_drop 24 ((words1.drop 24).drop 24), List.all_append, w_t3, ← List.take_append_drop 24 (((words1.drop 24).drop 24).drop 24), List.all_append, w_t4, ← List.take_append_drop 24 ((((words1.drop 24).drop 24).drop 24).drop 24), List.all_append, w_t5, w_t6]
  rfl
set_option maxRecDepth 65536 in
theorem w_rest : rest_1_c.before args0 about1 = true := by decide +kernel
set_option maxRecDepth 65536 in
theorem w_case : (Jvm.Cond.and given_1 narrow_1).before args0 about1 = true := by decide +kernel
set_option maxRecDepth 65536 in
theorem w_consts : constsHeld consts_1 about1 := Jvm.Lit.constsHeldB_iff.mp (by decide +kernel)
theorem w_applies : (headSpec (Jvm.Cond.code x code maxLocals ret :: tables_1) room_1).applies x e0.platform about1 = true :=
  (Spec.applies_iff w_frames).mpr ⟨w_running, w_runnable, w_alone, w_named, w_hears, w_ripe, w_room, w_tables⟩
theorem atStart : AtStart classFile x code maxLocals ret World_1 tables_1 room_1 Calls_1 rest_1 Pre_1 launch0 p0 e0 about1 theMethod args0 below0 :=
  ⟨lists_1, trivial, launch0.admits_env _ _ _, launch0.least_env, fairChoices_fair.cas, fairChoices_fair.clock, w_frames, w_args, w_heap, w_applies, ⟨w_consts, trivial⟩, w_rest, w_case⟩
end start1
theorem witness_1 : WitnessClaimed_1 := ⟨start1.p0, start1.e0, start1.about1, start1.theMethod, start1.args0, start1.below0, start1.atStart⟩
end Jvm.Pilot.@@N@@
