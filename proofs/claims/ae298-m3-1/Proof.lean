import JvmDerived
import JvmDerived.Pilot.@@N@@Statement
import JvmDerived.Pilot.@@N@@Code
set_option linter.unusedVariables false
set_option linter.unusedSimpArgs false
set_option maxRecDepth 65536
set_option maxHeartbeats 40000000
namespace Jvm.Pilot.@@N@@
open Jvm Jvm.ClassFile Sem Op Lib Jvm.Free Jvm.Stand Jvm.LawKit Jvm.RoadKit Bundle Jvm.Pilot.@@N@@.Jvm.D
/-! own: the walk by continuation -/
def Go (p : Program) (e : Env) (below : List Frame) (A : State) (G : Outcome → State → Prop) : Prop :=
  ∃ s₂ o, Steps p.tables e below A s₂ ∧ s₂.status = .running ∧ Ended s₂ below o ∧ G o s₂
section Own
variable {p : Program} {l : Launch} {e : Env} {R : Room} {s : State} {m : MethodId} {args : Array Value} {below : List Frame} {meth : Method} {c : Code} {T : State} {locs : List Loc} {cells slots : Nat} {G : Outcome → State → Prop} {A B : State}
theorem go_of (h : ∀ t, Steps p.tables e below B t → Steps p.tables e below A t) (k : Go p e below B G) : Go p e below A G := by
  obtain ⟨s₂, o, h1, h2⟩ := k; exact ⟨s₂, o, h _ h1, h2⟩
theorem go_tr (h : Steps p.tables e below A B) (k : Go p e below B G) : Go p e below A G := go_of (fun _ q => h.trans q) k
theorem go_end (X : Stand p l e R s m args below meth c T locs cells slots) {v : Option Value} (hv : meth.sig.returnType = none → v = none) (hlocks : meth.locks = false) {C S : Nat} (hc : cells ≤ C) (hs : slots ≤ S)
    {Q : Option Value → Heap → List Loc → Prop} (hQ : Q v T.heap locs) {f : JFrame}
    (st : ∀ fs, (∀ (f : JFrame) (acts : List Action), f.method = m → f.locked = none → f.entered = [] → (doReturn e (T.setTop f) acts v).1 = T.setFrames fs) → Steps p.tables e below (T.setTop f) (T.setFrames fs)) :
    Go p e below (T.setTop f) (fun o U' => ∃ v L, o = .returned v ∧ Q v U'.heap L ∧ FrameEnd s o U' L C S) := by
  obtain ⟨fs, hr, hrun, hended, hW, hsame⟩ := X.leave (v := v) hv hlocks
  exact ⟨_, _, st fs hr, hrun, hended, _, _, rfl, hQ, ⟨_, rfl⟩, hW, hsame.mono hc hs⟩
theorem go_endW {vm : Vm} (X : Stand p l e R (s.setVm vm) m args below meth c T locs cells slots) {k : Nat} (hS : s.Since vm k) (hk : k ≤ T.heap.size) {v : Option Value} (hv : meth.sig.returnType = none → v = none) (hlocks : meth.locks = false) {C S : Nat} (hc : cells ≤ C) (hs : slots ≤ S)
    {Q : Option Value → Heap → List Loc → Prop} (hQ : Q v T.heap locs) {f : JFrame}
    (st : ∀ fs, (∀ (f : JFrame) (acts : List Action), f.method = m → f.locked = none → f.entered = [] → (doReturn e (T.setTop f) acts v).1 = T.setFrames fs) → Steps p.tables e below (T.setTop f) (T.setFrames fs)) :
    Go p e below (T.setTop f) (fun o U' => ∃ v L, o = .returned v ∧ Q v U'.heap L ∧ ReturnedEndW s o U' L C S) := by
  obtain ⟨fs, hr, hrun, hended, e1, e2, e3, e4⟩ := X.leaveW hS hk (v := v) hv hlocks
  exact ⟨_, _, st fs hr, hrun, hended, _, _, rfl, hQ, e1, e2, e3, e4.mono hc hs⟩
theorem go_endH {Z : State} {a0 : Array Value} {EL : List (String × Nat)} {vm : Vm} {h0 h1 : Heap} (X : Stand p l e R (s.setVm vm) m args below meth c T locs cells slots) (hZ : Z.Warmed39 vm) (hEL : EW Z a0 EL) (HC : CHr Z EL s.vm h0 vm h1) (hh : s.heap = h0) (eT : T.heap = h1) {k : Nat} (hS : s.Since vm k) (hk : k ≤ T.heap.size) {v : Option Value} (hv : meth.sig.returnType = none → v = none) (hlocks : meth.locks = false) {C S : Nat} (hc : cells ≤ C) (hs : slots ≤ S)
    {Q : Option Value → Heap → List Loc → Prop} (hQ : Q v T.heap locs) {f : JFrame}
    (st : ∀ fs, (∀ (f : JFrame) (acts : List Action), f.method = m → f.locked = none → f.entered = [] → (doReturn e (T.setTop f) acts v).1 = T.setFrames fs) → Steps p.tables e below (T.setTop f) (T.setFrames fs)) :
    Go p e below (T.setTop f) (fun o U' => ∃ v L, o = .returned v ∧ Q v U'.heap L ∧ CHr Z EL s.vm s.heap U'.vm U'.heap ∧ ReturnedEndW s o U' L C S) := by
  obtain ⟨fs, hr, hrun, hended, e1, e2, e3, e4⟩ := X.leaveW hS hk (v := v) hv hlocks
  refine ⟨_, _, st fs hr, hrun, hended, _, _, rfl, hQ, ?_, e1, e2, e3, e4.mono hc hs⟩
  subst hh eT
  have q := HC.trans (CHv.at X hZ hEL HC.1)
  exact q
theorem own_retI (X : Stand p l e R s m args below meth c T locs cells slots) (hx : p.tables.exec = Jvm.exec) {pc : Nat} {Ls : Array Slot} {z : Int32} {rest : List Value} (hret : meth.sig.returnType = some .int) (hd : decode c.code pc = .ok (.ireturn, 1)) {fs : List Frame}
    (hl : ∀ (f : JFrame) (acts : List Action), f.method = m → f.locked = none → f.entered = [] → (doReturn e (T.setTop f) acts (some (.int z))).1 = T.setFrames fs) : Steps p.tables e below (T.setTop (mkF m pc Ls (.int z :: rest))) (T.setFrames fs) :=
  retOut X hx hret rfl (Or.inl ⟨rfl, Or.inl rfl, _, rfl⟩) hd hl
theorem own_retL (X : Stand p l e R s m args below meth c T locs cells slots) (hx : p.tables.exec = Jvm.exec) {pc : Nat} {Ls : Array Slot} {z : Int64} {rest : List Value} (hret : meth.sig.returnType = some .long) (hd : decode c.code pc = .ok (.lreturn, 1)) {fs : List Frame}
    (hl : ∀ (f : JFrame) (acts : List Action), f.method = m → f.locked = none → f.entered = [] → (doReturn e (T.setTop f) acts (some (.long z))).1 = T.setFrames fs) : Steps p.tables e below (T.setTop (mkF m pc Ls (.long z :: rest))) (T.setFrames fs) :=
  retOut X hx hret rfl (Or.inr (Or.inl ⟨rfl, rfl, _, rfl⟩)) hd hl
theorem own_retA (X : Stand p l e R s m args below meth c T locs cells slots) (hx : p.tables.exec = Jvm.exec) {pc : Nat} {Ls : Array Slot} {w : Value} {t : FieldType} {rest : List Value} (hret : meth.sig.returnType = some t) (ht : t.isReference = true) (hw : w.isRef = true) (hd : decode c.code pc = .ok (.areturn, 1)) {fs : List Frame}
    (hl : ∀ (f : JFrame) (acts : List Action), f.method = m → f.locked = none → f.entered = [] → (doReturn e (T.setTop f) acts (some w)).1 = T.setFrames fs) : Steps p.tables e below (T.setTop (mkF m pc Ls (w :: rest))) (T.setFrames fs) :=
  retOut X hx hret (by cases t <;> first | rfl | (cases ht; done)) (Or.inr (Or.inr (Or.inr (Or.inr ⟨rfl, ht, hw⟩)))) hd hl
theorem own_fldI {t : Term} {C n d : String} {k : Int32} {a : Addr} (ev : t.eval args s none [] s = some (.ref a)) (h : (Jvm.Cond.eq (.field t C n d) (.int k)).value args s none s [] = some true) : Fld s s.heap a C n d (.int k) := by
  obtain ⟨x, y, h1, h2, -, kyx⟩ := cmp_v (Or.inl h)
  have e2 : y = .int k := (Option.some.inj (h2.symm.trans (Term.int_eval k)))
  subst e2
  obtain ⟨z, rfl⟩ := kyx
  have hz : z = k := by simpa [Cond.value, h1, Term.int_eval] using h
  subst hz
  rw [fld_at ev] at h1
  exact Fld.start h1
theorem own_tsw (X : Stand p l e R s m args below meth c T locs cells slots) (hexec : p.tables.exec = Jvm.exec) {g : JFrame} (hg : g.method = m) {k : Int32} {rest : List Value} (hstack : g.stack = .int k :: rest) {default low high : Int} {offsets : Array Int} {len pc0 pc' : Nat} (hpc : g.pc = pc0)
    (hdg : decode c.code g.pc = .ok (.tableswitch default low high offsets, len)) (ki : Int) (hk : k.toInt = ki) (hin : ¬ (ki < low ∨ ki > high)) (off : Int) (hoffs : offsets[(ki - low).toNat]? = some off) (hoff : 0 ≤ (pc0 : Int) + off) (hp : ((pc0 : Int) + off).toNat = pc') {target : State}
    (hr : Steps p.tables e below (T.setTop { g with pc := pc', stack := rest }) target) : Steps p.tables e below (T.setTop g) target := by
  subst hpc hk hp; exact X.tableswitchIn hexec hg hstack hdg hin hoffs hoff target hr
theorem own_ne {a b : Addr} (h : @Ne Nat a b) : a ≠ b := h
theorem own_lt {a b : Nat} (h : @LT.lt Nat instLTNat a b) : @LT.lt Nat instLTNat a b := h
theorem own_le {a b : Nat} (h : @LE.le Nat instLENat a b) : @LE.le Nat instLENat a b := h
theorem own_nlt {a : Addr} {n : Nat} (h : a < n) : @LT.lt Nat instLTNat a n := h
theorem own_nle {a : Nat} {b : Addr} (h : a ≤ b) : @LE.le Nat instLENat a b := h
theorem own_inskeep {Z : State} {h h' : Heap} {a : Addr} {C : String} {ws : List Addr} (F : Ins Z h a C true) (K : Keep h h' ws) : Ins Z h' a C true := by
  obtain ⟨cell, cT, h1, h2, h3⟩ := F; obtain ⟨c', q, r1, r2, -⟩ := K.2.2 a cell h1; exact ⟨c', cT, q, h2, by rw [r1, r2]; exact h3⟩
theorem own_inslt {Z : State} {h : Heap} {a : Addr} {C : String} {b : Bool} (F : Ins Z h a C b) : a < h.size := by obtain ⟨_, _, h1, -⟩ := F; exact (Array.getElem?_eq_some_iff.mp h1).1
theorem own_kx {h h' : Heap} (K : Keep h h' []) : Ext h h' := ⟨K.1, fun a c q => K.2.1 a c q nin0⟩
theorem own_cache {t : Term} {C : String} {q : Jvm.Cond} {cl : Cell} {a : Addr} {ty : FieldType} (ev : ∀ idx, t.eval args s none idx s = some (.ref a)) (Ar : Arr s s.heap a cl ty)
    (h : (Jvm.Cond.all t (.and (.exactly (.elem t (.index 0)) C) q)).value args s none s [] = some true) (hz : cl.slots.size = 256) : ∀ i, i < 256 → ∃ w, cl.slots[i]? = some (.ref w) ∧ Exa s s.heap w C := fun i hi => by
  have hat : s.arrayAt? a = some cl := Arr.fin (Vm.Alike.refl _) Ar
  have hv := Cond.all_elim (ev []) hat h i (by rw [hz]; exact hi)
  obtain ⟨h1, -⟩ := and_e hv
  obtain ⟨w, ew⟩ := exa_v h1
  have ex := exa_at ew h1
  obtain ⟨p1, p2⟩ := IntBox.place_nonneg i hi
  rw [elem_f (ev [i]) (j := i.toInt32) rfl hat p1, p2] at ew
  exact ⟨w, ew, ex⟩
theorem own_stev {C n d : String} {v : Value} (h : (Term.static C n d).eval args s none [] s = some v) (idx : List Nat) : (Term.static C n d).eval args s none idx s = some v := h
theorem own_len {t : Term} {a : Addr} {cl : Cell} {ty : FieldType} {k : Int32} (ev : t.eval args s none [] s = some (.ref a)) (Ar : Arr s s.heap a cl ty) (h : (Jvm.Cond.eq (.length t) (.int k)).value args s none s [] = some true) (hk : ¬ k < 0) : cl.slots.size = k.toNatClampNeg := by
  have hat : s.arrayAt? a = some cl := Arr.fin (Vm.Alike.refl _) Ar
  obtain ⟨x, y, h1, h2, -, kyx⟩ := cmp_v (Or.inl h)
  have e2 : y = .int k := (Option.some.inj (h2.symm.trans (Term.int_eval k)))
  subst e2
  obtain ⟨z, rfl⟩ := kyx
  have hz : z = k := by simpa [Cond.value, h1, Term.int_eval] using h
  subst hz
  have hl : cl.slots.size < 2 ^ 31 := by
    by_cases q : cl.slots.size < 2 ^ 31
    · exact q
    · simp [Term.eval, ev, hat, q] at h1
  rw [len_f ev hat hl] at h1
  have h3 : cl.slots.size.toInt32 = z := by simpa using h1
  rw [← h3]
  have h4 := len_toInt hl
  simp only [Int32.toNatClampNeg, h4]; rfl
end Own
abbrev TW (a0 : Array Value) (Z : State) : Prop := ∀ d ∈ tables_1, d.before a0 Z = true
abbrev own_MF (l : Launch) (Z : State) (y : MethodName) (bytes : ByteArray) (maxL : Nat) (ret : Option FieldType) (ws : List Jvm.Cond) (rm : Room) (A : Array Value) (h0 : Heap) (Q : Option Value → Heap → List Loc → Prop) : Prop := MetFree l y (head1 (Jvm.Cond.code y bytes maxL ret :: ws) rm) (fun a U => a = A ∧ Z.Warmed39 U.vm ∧ U.heap = h0) (fun _ _ _ _ _ => True) (fun _ U o U' => ∃ v L, o = .returned v ∧ Q v U'.heap L ∧ FrameEnd U o U' L rm.cells rm.slots)
abbrev own_MFW (l : Launch) (Z : State) (y : MethodName) (bytes : ByteArray) (maxL : Nat) (ret : Option FieldType) (ws : List Jvm.Cond) (rm : Room) (A : Array Value) (h0 : Heap) (Q : Option Value → Heap → List Loc → Prop) : Prop := MetFree l y (head1 (Jvm.Cond.code y bytes maxL ret :: ws) rm) (fun a U => a = A ∧ Z.Warmed39 U.vm ∧ U.heap = h0) (fun _ _ _ _ _ => True) (fun _ U o U' => ∃ v L, o = .returned v ∧ Q v U'.heap L ∧ ReturnedEndW U o U' L rm.cells rm.slots)
abbrev MN0 : MethodName := ⟨"com/example/libpubid/libpubid/store/Names", "isName", "(Ljava/lang/String;I)Z"⟩
abbrev MN1 : MethodName := ⟨"com/example/libpubid/libpubid/store/NamesIsNamePinLaw", "build", "(ICCCC)[C"⟩
abbrev MN2 : MethodName := ⟨"com/example/libpubid/libpubid/store/NamesIsNamePinLaw", "ok", "(C)Z"⟩
abbrev MN3 : MethodName := ⟨"java/lang/String", "<init>", "([C)V"⟩
abbrev MN4 : MethodName := ⟨"java/lang/String", "<init>", "([CIILjava/lang/Void;)V"⟩
abbrev MN5 : MethodName := ⟨"java/lang/String", "charAt", "(I)C"⟩
abbrev MN6 : MethodName := ⟨"java/lang/String", "checkIndex", "(II)V"⟩
abbrev MN7 : MethodName := ⟨"java/lang/String", "coder", "()B"⟩
abbrev MN8 : MethodName := ⟨"java/lang/String", "isEmpty", "()Z"⟩
abbrev MN9 : MethodName := ⟨"java/lang/String", "isLatin1", "()Z"⟩
abbrev MN10 : MethodName := ⟨"java/lang/String", "length", "()I"⟩
abbrev MN11 : MethodName := ⟨"java/lang/StringUTF16", "coderFromArrayLen", "([BI)B"⟩
abbrev MN12 : MethodName := ⟨"java/lang/StringUTF16", "compress", "([CII)[B"⟩
abbrev MN13 : MethodName := ⟨"java/lang/StringUTF16", "compress", "([CI[BII)I"⟩
abbrev MN14 : MethodName := ⟨"java/lang/StringUTF16", "getChar", "([BI)C"⟩
abbrev MN15 : MethodName := ⟨"java/lang/StringUTF16", "newBytesFor", "(I)[B"⟩
abbrev MN16 : MethodName := ⟨"java/lang/StringUTF16", "newBytesLength", "(I)I"⟩
abbrev MN17 : MethodName := ⟨"java/lang/StringUTF16", "putChar", "([BII)V"⟩
abbrev MN18 : MethodName := ⟨"java/lang/StringUTF16", "toBytes", "([CII)[B"⟩
theorem own_wd {a0 : Array Value} {Z : State} (hw : TW a0 Z) (i : Nat) {d : Jvm.Cond} (h : tables_1[i]? = some d) : d.before a0 Z = true := hw _ (List.mem_of_getElem? h)
abbrev own_R (f c s l : Nat) : Room := { frames := f, cells := c, slots := s, locals := l }
theorem own_wS {a0 : Array Value} {Z : State} (hw : ∀ d ∈ tables_1, d.before a0 Z = true) : ∀ a ∈ Bundle.stringAtoms, a.before a0 Z = true := by
  intro a ha
  simp only [Bundle.stringAtoms, List.mem_cons, List.not_mem_nil, or_false] at ha
  rcases ha with rfl | rfl | rfl | rfl | rfl | rfl | rfl
  · exact hw _ (List.mem_of_getElem? (i := 3) rfl)
  · exact hw _ (List.mem_of_getElem? (i := 2) rfl)
  · exact hw _ (List.mem_of_getElem? (i := 20) rfl)
  · exact hw _ (List.mem_of_getElem? (i := 21) rfl)
  · exact hw _ (List.mem_of_getElem? (i := 22) rfl)
  · exact hw _ (List.mem_of_getElem? (i := 23) rfl)
  · exact hw _ (List.mem_of_getElem? (i := 24) rfl)
theorem own_fI {a0 : Array Value} {Z : State} {K : String} {n : Nat} (w : (Cond.instantiable K n).before a0 Z = true) : ∃ t k, Z.vm.findClass K = some t ∧ Z.vm.classes[t]? = some k ∧ k.kind = .ordinary ∧ k.isInterface = false := by
  obtain ⟨c, k, h1, h2, h3, h4, -⟩ := Cond.instantiable_spec w
  exact ⟨c, k, h1, h2, h3, by cases q : k.isInterface <;> simp_all⟩
theorem own_nsroot {a0 : Array Value} {Z : State} {O K : String} {n : Nat} (w : (Cond.noSuperclass O).before a0 Z = true) (wk : (Cond.instantiable K n).before a0 Z = true) (hn : O ≠ K) : NS Z O K := by
  obtain ⟨c, k, h1, h2, h3, -, -⟩ := Cond.noSuperclass_spec w
  obtain ⟨t, kt, g1, -⟩ := own_fI wk
  have ne := ids_ne h1 g1 hn
  refine ⟨c, t, h1, g1, fun fuel => ?_⟩
  cases fuel with
  | zero => rfl
  | succ f => simp [Vm.isSubclassAux, ne, h2, h3]
theorem own_nsno {a0 : Array Value} {Z : State} {C S K : String} {n : Nat} (w : (Cond.superclass C S).before a0 Z = true) (wk : (Cond.instantiable K n).before a0 Z = true) (nn : NS Z C K) (hn : C ≠ K) : ∃ c t, Z.vm.findClass C = some c ∧ Z.vm.findClass K = some t ∧ Z.vm.assignable c t = false := by
  obtain ⟨c, t, h0, g0, n3⟩ := nn
  obtain ⟨p, k, kp, h1, h2, h3, h4, h5, -, h7⟩ := Cond.superclass_spec h0 w
  obtain ⟨t', k', g1, g2, g5, g7⟩ := own_fI wk
  cases g0.symm.trans g1
  have ne := ids_ne h0 g0 hn
  refine ⟨c, t, h0, g0, ?_⟩
  show Z.vm.assignableAux (255 + 1) c t = false
  simp [Vm.assignableAux, ne, h2, g2, h5, g5, g7, Vm.isSubclass, n3]

theorem own_safe_null {Z : State} {EL : List (String × Nat)} {vm : Vm} {h : Heap} {x : Addr} (hal : Z.vm.Alike vm) (E : Exa Z h x "java/lang/String") (F : Fld Z h x "java/lang/String" "value" "[B" .null) : Safe Z EL vm h x := fun B => by
  obtain ⟨p, -, u, a, -, q, -, G, rfl | rfl⟩ := B
  · obtain ⟨cS, ⟨⟨s1, s2, s3, ⟨cv, kv, iv, s4, s4'⟩, ⟨cc, kc, ic, s5, s5'⟩, s6, s7, s8, -⟩, hfS, hcS⟩, -⟩ := G
    obtain ⟨cell, cf, k, i, f, f1, f2, f3, f4, f5, f6, f7⟩ := F
    obtain ⟨kv', z4⟩ := ff_back (U := Wst Z vm h) hal s4
    cases (show h[q.sa]? = some q.sC from s1).symm.trans f1
    cases z4.symm.trans f2
    cases s8.symm.trans f7
  · obtain ⟨cell, k, e1, e2, e3, -, -⟩ := E
    cases (show h[q.sd]? = some q.SA from G.hd).symm.trans e1
    obtain ⟨cS, -, -, f, -⟩ := G
    have f' : vm.findClass "[B" = some q.SA.cls := f
    rw [hal.findClass] at f'
    exact ids_ne f' e2 (by decide) rfl
theorem own_safe_arv {Z : State} {EL : List (String × Nat)} {vm : Vm} {h : Heap} {x : Addr} {k : ClassId} {ty : FieldType} {n : Int32} {vs : List Value} {d : Value} (hal : Z.vm.Alike vm) (A : Arv Z h x k ty n vs d) (ht : ty ≠ .byte) : Safe Z EL vm h x := by
  obtain ⟨cl, Ar, -⟩ := A; exact Safe.arr hal Ar ht
/-- an ordinary object that is no String -/
def Ord (Z : State) (h : Heap) (o : Addr) : Prop := ∃ (cell : Cell) (k : Class), h[o]? = some cell ∧ Z.vm.classes[cell.cls]? = some k ∧ k.kind = .ordinary ∧ Z.vm.findClass "java/lang/String" ≠ some cell.cls
theorem Ord.of {Z : State} {h : Heap} {o : Addr} {a0 : Array Value} {C : String} {n : Nat} (E : Exa Z h o C) (w : (Cond.instantiable C n).before a0 Z = true) (hn : C ≠ "java/lang/String") : Ord Z h o := by
  obtain ⟨cell, k, e1, e2, e3, -, -⟩ := E
  obtain ⟨t, k', f1, f2, f3, -⟩ := own_fI w
  cases e2.symm.trans f1
  cases e3.symm.trans f2
  exact ⟨cell, k, e1, e3, f3, fun q => ids_ne e2 q hn rfl⟩
theorem Ord.ne {Z : State} {h : Heap} {o t : Addr} {k : ClassId} {ty : FieldType} {n : Int32} {vs : List Value} {d : Value} (F : Ord Z h o) (A : Arv Z h t k ty n vs d) : t ≠ o := fun e => by
  subst e
  obtain ⟨cell, kk, f1, f2, f3, -⟩ := F
  obtain ⟨c, ⟨a1, ⟨-, k2, a2, comp, a3⟩, -⟩, -⟩ := A
  cases f1.symm.trans a1
  cases f2.symm.trans a2
  rw [f3] at a3; cases a3
theorem Ord.ne' {Z : State} {h : Heap} {o a : Addr} (F : Ord Z h o) (E : Exa Z h a "java/lang/String") : a ≠ o := fun e => by
  subst e
  obtain ⟨cell, kk, f1, f2, f3, f4⟩ := F
  obtain ⟨c, k, e1, e2, -⟩ := E
  cases f1.symm.trans e1
  exact f4 e2

def own_EL : List (String × Nat) := [("java/lang/String", 7)]
abbrev own_MFH (l : Launch) (Z : State) (y : MethodName) (bytes : ByteArray) (maxL : Nat) (ret : Option FieldType) (ws : List Jvm.Cond) (rm : Room) (A : Array Value) (h0 : Heap) (Q : Option Value → Heap → List Loc → Prop) : Prop := MetFree l y (head1 (Jvm.Cond.code y bytes maxL ret :: ws) rm) (fun a U => a = A ∧ Z.Warmed39 U.vm ∧ U.heap = h0 ∧ CHv Z own_EL U.vm h0) (fun _ _ _ _ _ => True) (fun _ U o U' => ∃ v L, o = .returned v ∧ Q v U'.heap L ∧ CHr Z own_EL U.vm U.heap U'.vm U'.heap ∧ ReturnedEndW U o U' L rm.cells rm.slots)
theorem own_EW {a0 : Array Value} {Z : State} (hw : ∀ d ∈ tables_1, d.before a0 Z = true) : EW Z a0 own_EL := EW.cons (hw _ (List.mem_of_getElem? (i := 19) rfl)) (by decide) (EW.nil)
abbrev own_b8 (c : Int32) : Int32 := c.toInt8.toInt32
theorem own_bb (c : Int32) : c.toInt8.toInt32.toInt8.toInt32 = c.toInt8.toInt32 := by simp
/-- a String of Latin-1 chars -/
def Str (Z : State) (h : Heap) (a : Addr) (n : Int32) (cs : List Int32) : Prop := ∃ (t : Addr) (k : ClassId), Exa Z h a "java/lang/String" ∧ Fld Z h a "java/lang/String" "coder" "B" (.int 0) ∧ Fld Z h a "java/lang/String" "value" "[B" (.ref t) ∧ Arv Z h t k .byte n (cs.map fun c => .int (own_b8 c)) (.int 0) ∧ (∀ c ∈ cs, ¬ c < 0 ∧ ¬ (255 : Int32) < c)
theorem Str.ext {Z : State} {h h' : Heap} {a : Addr} {n : Int32} {cs : List Int32} (F : Str Z h a n cs) (E : Ext h h') : Str Z h' a n cs := by
  obtain ⟨t, k, f1, f2, f3, f4, f5⟩ := F; exact ⟨t, k, f1.ext E, f2.ext E, f3.ext E, f4.ext E, f5⟩
theorem Str.lt {Z : State} {h : Heap} {a : Addr} {n : Int32} {cs : List Int32} (F : Str Z h a n cs) : a < h.size := by obtain ⟨t, k, f1, -⟩ := F; exact f1.lt
theorem Str.exa {Z : State} {h : Heap} {a : Addr} {n : Int32} {cs : List Int32} (F : Str Z h a n cs) : Exa Z h a "java/lang/String" := by obtain ⟨t, k, f1, -⟩ := F; exact f1
theorem own_allc {P : Int32 → Prop} {c : Int32} {cs : List Int32} (h : P c) (r : ∀ x ∈ cs, P x) : ∀ x ∈ c :: cs, P x := fun x q => (List.mem_cons.mp q).elim (fun e => e ▸ h) (r x)
theorem own_narc {c : Int32} (h : ¬ c < 0 ∧ ¬ (255 : Int32) < c) : nar .char c = c := by
  have h1 := c_i2c c
  apply Int32.toInt_inj.mp
  have e0 : (0 : Int32).toInt = 0 := rfl
  have e1 : (255 : Int32).toInt = 255 := rfl
  have h2 := h.1; have h3 := h.2
  rw [Int32.lt_iff_toInt_lt] at h2 h3
  show c.toUInt32.toUInt16.toUInt32.toInt32.toInt = c.toInt
  omega
theorem own_b255 {c : Int32} (h : ¬ c < 0 ∧ ¬ (255 : Int32) < c) : (own_b8 c &&& (255 : Int32)).toUInt32.toUInt16.toUInt32.toInt32 = c := by
  have h1 := c_i2b c
  have h4 : (own_b8 c &&& (255 : Int32)).toInt = (own_b8 c).toInt % 256 := c_mask (own_b8 c) 255 8 (by decide) (by decide)
  have h5 := c_i2c (own_b8 c &&& (255 : Int32))
  apply Int32.toInt_inj.mp
  have e0 : (0 : Int32).toInt = 0 := rfl
  have e1 : (255 : Int32).toInt = 255 := rfl
  have h2 := h.1; have h3 := h.2
  rw [Int32.lt_iff_toInt_lt] at h2 h3
  have e8 : (own_b8 c).toInt = c.toInt8.toInt32.toInt := rfl
  omega
theorem own_b8inj {c d : Int32} (h : ¬ c < 0 ∧ ¬ (255 : Int32) < c) (h' : ¬ d < 0 ∧ ¬ (255 : Int32) < d) (e : own_b8 c = own_b8 d) : c = d := by
  rw [← own_b255 h, ← own_b255 h', e]

theorem own_narc16 {c : Int32} (h : ¬ c < 0 ∧ ¬ (65535 : Int32) < c) : nar .char c = c := by
  have h1 := c_i2c c
  apply Int32.toInt_inj.mp
  have e0 : (0 : Int32).toInt = 0 := rfl
  have e1 : (65535 : Int32).toInt = 65535 := rfl
  have h2 := h.1; have h3 := h.2
  rw [Int32.lt_iff_toInt_lt] at h2 h3
  show c.toUInt32.toUInt16.toUInt32.toInt32.toInt = c.toInt
  omega
abbrev own_b0 (c : Int32) : Int32 := (c >>> ((0 : Int32) &&& 31)).toInt8.toInt32
abbrev own_b1 (c : Int32) : Int32 := (c >>> ((8 : Int32) &&& 31)).toInt8.toInt32
theorem own_gc {c : Int32} (h : ¬ c < 0 ∧ ¬ (65535 : Int32) < c) : (((own_b0 c &&& (255 : Int32)) <<< ((0 : Int32) &&& 31)) ||| ((own_b1 c &&& (255 : Int32)) <<< ((8 : Int32) &&& 31))).toUInt32.toUInt16.toUInt32.toInt32 = c := by
  have e0 : (0 : Int32).toInt = 0 := rfl
  have e1 : (65535 : Int32).toInt = 65535 := rfl
  have h2 := h.1; have h3 := h.2
  rw [Int32.lt_iff_toInt_lt] at h2 h3
  have s0 : (c >>> ((0 : Int32) &&& 31)).toInt = c.toInt / 1 := c_ishr c 0 0 (by decide)
  have s1 : (c >>> ((8 : Int32) &&& 31)).toInt = c.toInt / 256 := c_ishr c 8 8 (by decide)
  have t0 := c_i2b (c >>> ((0 : Int32) &&& 31))
  have t1 := c_i2b (c >>> ((8 : Int32) &&& 31))
  have m0 : (own_b0 c &&& (255 : Int32)).toInt = (own_b0 c).toInt % 256 := c_mask (own_b0 c) 255 8 (by decide) (by decide)
  have m1 : (own_b1 c &&& (255 : Int32)).toInt = (own_b1 c).toInt % 256 := c_mask (own_b1 c) 255 8 (by decide) (by decide)
  have u0 : (own_b0 c).toInt = (c >>> ((0 : Int32) &&& 31)).toInt8.toInt32.toInt := rfl
  have u1 : (own_b1 c).toInt = (c >>> ((8 : Int32) &&& 31)).toInt8.toInt32.toInt := rfl
  generalize own_b0 c &&& (255 : Int32) = x at *
  generalize own_b1 c &&& (255 : Int32) = y at *
  have l0 : ((x <<< ((0 : Int32) &&& 31)).toInt - x.toInt * 1) % 4294967296 = 0 := c_ishl x 0 0 (by decide)
  have l1 : ((y <<< ((8 : Int32) &&& 31)).toInt - y.toInt * 256) % 4294967296 = 0 := c_ishl y 8 8 (by decide)
  have r0 := rng32 (x <<< ((0 : Int32) &&& 31))
  have r1 := rng32 (y <<< ((8 : Int32) &&& 31))
  generalize x <<< ((0 : Int32) &&& 31) = xx at *
  generalize y <<< ((8 : Int32) &&& 31) = yy at *
  have o := c_or' xx yy 8 (by decide) 256 rfl (by omega) (by omega) (by omega)
  have ro := rng32 (xx ||| yy)
  generalize xx ||| yy = z at *
  have i := c_i2c z
  apply Int32.toInt_inj.mp
  omega
theorem own_shr0 (z : Int32) : z >>> ((0 : Int32) &&& 31) = z := by
  apply Int32.toInt_inj.mp; rw [c_ishr z 0 0 (by decide)]; simp
def own_w16 : List Int32 → List Value
  | [] => []
  | c :: r => .int (own_b0 c) :: .int (own_b1 c) :: own_w16 r
def StrW (Z : State) (h : Heap) (a : Addr) (m : Int32) (cs : List Int32) : Prop := ∃ (t : Addr) (k : ClassId), Exa Z h a "java/lang/String" ∧ Fld Z h a "java/lang/String" "coder" "B" (.int 1) ∧ Fld Z h a "java/lang/String" "value" "[B" (.ref t) ∧ Arv Z h t k .byte m (own_w16 cs) (.int 0) ∧ (∀ c ∈ cs, ¬ c < 0 ∧ ¬ (65535 : Int32) < c)
def StrU (Z : State) (h : Heap) (a : Addr) (n m : Int32) (cs : List Int32) : Prop := Str Z h a n cs ∨ StrW Z h a m cs
theorem StrW.ext {Z : State} {h h' : Heap} {a : Addr} {n : Int32} {cs : List Int32} (F : StrW Z h a n cs) (E : Ext h h') : StrW Z h' a n cs := by
  obtain ⟨t, k, f1, f2, f3, f4, f5⟩ := F; exact ⟨t, k, f1.ext E, f2.ext E, f3.ext E, f4.ext E, f5⟩
theorem StrW.exa {Z : State} {h : Heap} {a : Addr} {n : Int32} {cs : List Int32} (F : StrW Z h a n cs) : Exa Z h a "java/lang/String" := by obtain ⟨t, k, f1, -⟩ := F; exact f1
theorem StrU.ext {Z : State} {h h' : Heap} {a : Addr} {n m : Int32} {cs : List Int32} (F : StrU Z h a n m cs) (E : Ext h h') : StrU Z h' a n m cs := F.elim (fun q => Or.inl (q.ext E)) (fun q => Or.inr (q.ext E))
theorem StrU.exa {Z : State} {h : Heap} {a : Addr} {n m : Int32} {cs : List Int32} (F : StrU Z h a n m cs) : Exa Z h a "java/lang/String" := F.elim (fun q => q.exa) (fun q => q.exa)
def US (Z : State) : Prop := Sta Z Z.heap "java/lang/StringUTF16" "$assertionsDisabled" "Z" (.int 1) ∧ Sta Z Z.heap "java/lang/StringUTF16" "HI_BYTE_SHIFT" "I" (.int 0) ∧ Sta Z Z.heap "java/lang/StringUTF16" "LO_BYTE_SHIFT" "I" (.int 8)

theorem own_t48 : (48 : Int32).toInt = 48 := rfl
theorem own_t57 : (57 : Int32).toInt = 57 := rfl
theorem own_t65 : (65 : Int32).toInt = 65 := rfl
theorem own_t90 : (90 : Int32).toInt = 90 := rfl
theorem own_t95 : (95 : Int32).toInt = 95 := rfl
theorem own_t97 : (97 : Int32).toInt = 97 := rfl
theorem own_t122 : (122 : Int32).toInt = 122 := rfl
def own_okB (c : Int32) : Bool := (decide (64 < c.toInt) && decide (c.toInt < 91)) || (decide (96 < c.toInt) && decide (c.toInt < 123)) || (decide (47 < c.toInt) && decide (c.toInt < 58)) || decide (c.toInt = 95)
def own_oki (c : Int32) : Int32 := bif own_okB c then 1 else 0
abbrev own_cc (x : Int32) : Int32 := (x &&& (65535 : Int32)).toUInt32.toUInt16.toUInt32.toInt32
theorem own_ccr (x : Int32) : ¬ own_cc x < 0 ∧ ¬ (65535 : Int32) < own_cc x := by
  have h5 := c_i2c (x &&& (65535 : Int32))
  rw [Int32.lt_iff_toInt_lt, Int32.lt_iff_toInt_lt]
  have e1 : (65535 : Int32).toInt = 65535 := rfl; have e0 : (0 : Int32).toInt = 0 := rfl
  have e2 : (own_cc x).toInt = (x &&& (65535 : Int32)).toUInt32.toUInt16.toUInt32.toInt32.toInt := rfl
  omega
theorem own_n85 (z : Int32) : ((z &&& (7 : Int32)) % (5 : Int32)) = 0 ∨ ((z &&& (7 : Int32)) % (5 : Int32)) = 1 ∨ ((z &&& (7 : Int32)) % (5 : Int32)) = 2 ∨ ((z &&& (7 : Int32)) % (5 : Int32)) = 3 ∨ ((z &&& (7 : Int32)) % (5 : Int32)) = 4 := by
  have h : (z &&& (7 : Int32)).toInt = z.toInt % 8 := c_mask z 7 3 (by decide) (by decide)
  generalize (z &&& (7 : Int32)) = y at h
  have h1 := (c_irem y 5 5 rfl).1 (by omega)
  have e0 : (0 : Int32).toInt = 0 := rfl; have e1 : (1 : Int32).toInt = 1 := rfl; have e2 : (2 : Int32).toInt = 2 := rfl; have e3 : (3 : Int32).toInt = 3 := rfl; have e4 : (4 : Int32).toInt = 4 := rfl
  simp only [← Int32.toInt_inj]
  omega
def own_nm (n mx : Int32) (cs : List Int32) : Int32 := bif (decide (mx < n) || !(cs.all own_okB)) then 0 else 1
theorem d10_0 : decode method_2_code 0 = .ok (.iload_n 0, 1) := by decide +kernel
theorem d10_1 : decode method_2_code 1 = .ok (.bipush 95, 2) := by decide +kernel
theorem d10_3 : decode method_2_code 3 = .ok (.if_icmp .ne 5, 3) := by decide +kernel
theorem d10_6 : decode method_2_code 6 = .ok (.iconst 1, 1) := by decide +kernel
theorem d10_7 : decode method_2_code 7 = .ok (.ireturn, 1) := by decide +kernel
def Q_okc (Z : State) (ch : Int32) (h0 : Heap) (n0 : Nat) (v : Option Value) (h : Heap) (L : List Loc) : Prop := v = some (.int (own_oki ch)) ∧ Fr n0 L ∧ h = h0
theorem d10_8 : decode method_2_code 8 = .ok (.bipush 48, 2) := by decide +kernel
theorem d10_10 : decode method_2_code 10 = .ok (.iload_n 0, 1) := by decide +kernel
theorem d10_11 : decode method_2_code 11 = .ok (.if_icmp .gt 11, 3) := by decide +kernel
theorem d10_22 : decode method_2_code 22 = .ok (.bipush 65, 2) := by decide +kernel
theorem d10_24 : decode method_2_code 24 = .ok (.iload_n 0, 1) := by decide +kernel
theorem d10_25 : decode method_2_code 25 = .ok (.if_icmp .gt 11, 3) := by decide +kernel
theorem d10_36 : decode method_2_code 36 = .ok (.bipush 97, 2) := by decide +kernel
theorem d10_38 : decode method_2_code 38 = .ok (.iload_n 0, 1) := by decide +kernel
theorem d10_39 : decode method_2_code 39 = .ok (.if_icmp .gt 13, 3) := by decide +kernel
theorem d10_52 : decode method_2_code 52 = .ok (.iconst 0, 1) := by decide +kernel
theorem d10_53 : decode method_2_code 53 = .ok (.ireturn, 1) := by decide +kernel
theorem d10_42 : decode method_2_code 42 = .ok (.iload_n 0, 1) := by decide +kernel
theorem d10_43 : decode method_2_code 43 = .ok (.bipush 122, 2) := by decide +kernel
theorem d10_45 : decode method_2_code 45 = .ok (.if_icmp .gt 7, 3) := by decide +kernel
theorem d10_48 : decode method_2_code 48 = .ok (.iconst 1, 1) := by decide +kernel
theorem d10_49 : decode method_2_code 49 = .ok (.goto 4, 3) := by decide +kernel
theorem d10_28 : decode method_2_code 28 = .ok (.iload_n 0, 1) := by decide +kernel
theorem d10_29 : decode method_2_code 29 = .ok (.bipush 90, 2) := by decide +kernel
theorem d10_31 : decode method_2_code 31 = .ok (.if_icmp .gt 5, 3) := by decide +kernel
theorem d10_34 : decode method_2_code 34 = .ok (.iconst 1, 1) := by decide +kernel
theorem d10_35 : decode method_2_code 35 = .ok (.ireturn, 1) := by decide +kernel
theorem d10_14 : decode method_2_code 14 = .ok (.iload_n 0, 1) := by decide +kernel
theorem d10_15 : decode method_2_code 15 = .ok (.bipush 57, 2) := by decide +kernel
theorem d10_17 : decode method_2_code 17 = .ok (.if_icmp .gt 5, 3) := by decide +kernel
theorem d10_20 : decode method_2_code 20 = .ok (.iconst 1, 1) := by decide +kernel
theorem d10_21 : decode method_2_code 21 = .ok (.ireturn, 1) := by decide +kernel
theorem pn_com_example_libpubid_libpubid_store_NamesIsNamePinLaw : plainName "com/example/libpubid/libpubid/store/NamesIsNamePinLaw" = true := by first | (simp [plainName, overriddenIn]; done) | decide +kernel
theorem ef_okc (m : MethodId) (ch : Int32)  : entryFrame m #[(.int ch)] 1 = mkF m 0 #[.val (.int ch)] [] := by first | (simp [entryFrame, mkF, argsToLocals, Value.category]; done) | rfl
theorem okc (l : Launch) (Z : State) (a0 : Array Value) (hw : TW a0 Z) (ws : List Jvm.Cond) (ch : Int32) (h0 : Heap) (n0 : Nat) (Z0 : n0 ≤ h0.size)  :
    own_MF l Z MN2 method_2_code 1 (some .boolean) ws (own_R 0 0 0 0) #[(.int ch)] h0 (Q_okc Z ch h0 n0) := by
  have wd := @own_wd _ _ hw
  refine MetFree.of_bodySF (plainFor_of_name pn_com_example_libpubid_libpubid_store_NamesIsNamePinLaw) hisR ?_
  intro p e s m args below meth c s₁ Bd hml0 hP hK
  obtain ⟨rfl, hZ, hh⟩ := hP
  have hx := Bd.exec
  have hby := Bd.bytes
  have hml : c.maxLocals = 1 := hml0
  have hown : s.vm.findClass "com/example/libpubid/libpubid/store/NamesIsNamePinLaw" = some m.cls := findClass_of_methodNamed Bd.named
  have hnm := (name_of_methodNamed Bd.named Bd.method).1
  have X0 : Stand p l e (own_R 0 0 0 0) s m #[(.int ch)] below meth c s₁ [] 0 0 := Stand.of_body Bd
  have e0 : s₁.heap = h0 := by rw [← hh, Bd.state]; rfl
  have N0 := Fr.nil n0
  refine go_of (A := s₁.setTop (entryFrame m #[(.int ch)] 1)) (B := s₁.setTop (mkF m 0 #[.val (.int ch)] [])) (fun _ kk' => castTop (ef_okc m ch) kk') ?_
  refine go_of (B := (s₁.setTop (mkF m 3 #[.val (.int ch)] [(.int (95 : Int32)), (.int ch)]))) (fun _ kk => XS.iloadN X0.here hx rfl (hb hby d10_0) rfl (XS.bipush X0.here hx rfl (hb hby d10_1) kk)) ?_
  by_cases hcc1 : ch = (95 : Int32)
  · refine go_of (B := (s₁.setTop (mkF m 7 #[.val (.int ch)] [(.int (1 : Int32))]))) (fun _ kk => XS.icmpNo X0.here hx rfl (hb hby d10_3) rfl (teq hcc1).2 (XS.iconst X0.here hx rfl (hb hby d10_6) kk)) ?_
    refine go_end X0 (v := some (.int (nar .boolean (1 : Int32)))) (fun h => by rw [Bd.returns] at h; cases h) Bd.notSynchronized (by decide) (by decide) (Q := (Q_okc Z ch h0 n0)) ?_ (fun fs hr => retN X0 hx (t := .boolean) Bd.returns (by simp) (hb hby d10_7) hr)
    unfold Q_okc
    try rw [e0]
    refine ⟨?_, N0, rfl⟩
    have hq : own_okB ch = true := (by simp only [Int32.lt_iff_toInt_lt, ← Int32.toInt_inj, own_t48, own_t57, own_t65, own_t90, own_t95, own_t97, own_t122] at hcc1; simp only [own_okB, Bool.or_eq_true, Bool.and_eq_true, decide_eq_true_eq]; omega)
    rw [own_oki, hq]; rfl
  · refine go_of (B := (s₁.setTop (mkF m 11 #[.val (.int ch)] [(.int ch), (.int (48 : Int32))]))) (fun _ kk => XS.icmpYes X0.here hx rfl (pc0 := 3) (pc' := 8) rfl (hb hby d10_3) rfl (feq hcc1).2 (by decide) (by decide) (XS.bipush X0.here hx rfl (hb hby d10_8) (XS.iloadN X0.here hx rfl (hb hby d10_10) rfl kk))) ?_
    by_cases hcc2 : ch < (48 : Int32)
    · refine go_of (B := (s₁.setTop (mkF m 25 #[.val (.int ch)] [(.int ch), (.int (65 : Int32))]))) (fun _ kk => XS.icmpYes X0.here hx rfl (pc0 := 11) (pc' := 22) rfl (hb hby d10_11) rfl (tlt hcc2).2.2.1 (by decide) (by decide) (XS.bipush X0.here hx rfl (hb hby d10_22) (XS.iloadN X0.here hx rfl (hb hby d10_24) rfl kk))) ?_
      by_cases hcc3 : ch < (65 : Int32)
      · refine go_of (B := (s₁.setTop (mkF m 39 #[.val (.int ch)] [(.int ch), (.int (97 : Int32))]))) (fun _ kk => XS.icmpYes X0.here hx rfl (pc0 := 25) (pc' := 36) rfl (hb hby d10_25) rfl (tlt hcc3).2.2.1 (by decide) (by decide) (XS.bipush X0.here hx rfl (hb hby d10_36) (XS.iloadN X0.here hx rfl (hb hby d10_38) rfl kk))) ?_
        by_cases hcc4 : ch < (97 : Int32)
        · refine go_of (B := (s₁.setTop (mkF m 53 #[.val (.int ch)] [(.int (0 : Int32))]))) (fun _ kk => XS.icmpYes X0.here hx rfl (pc0 := 39) (pc' := 52) rfl (hb hby d10_39) rfl (tlt hcc4).2.2.1 (by decide) (by decide) (XS.iconst X0.here hx rfl (hb hby d10_52) kk)) ?_
          refine go_end X0 (v := some (.int (nar .boolean (0 : Int32)))) (fun h => by rw [Bd.returns] at h; cases h) Bd.notSynchronized (by decide) (by decide) (Q := (Q_okc Z ch h0 n0)) ?_ (fun fs hr => retN X0 hx (t := .boolean) Bd.returns (by simp) (hb hby d10_53) hr)
          unfold Q_okc
          try rw [e0]
          refine ⟨?_, N0, rfl⟩
          have hq : own_okB ch = false := (by simp only [Int32.lt_iff_toInt_lt, ← Int32.toInt_inj, own_t48, own_t57, own_t65, own_t90, own_t95, own_t97, own_t122] at hcc1 hcc2 hcc3 hcc4; simp only [own_okB, Bool.or_eq_false_iff, Bool.and_eq_false_iff, decide_eq_false_iff_not]; omega)
          rw [own_oki, hq]; rfl
        · refine go_of (B := (s₁.setTop (mkF m 45 #[.val (.int ch)] [(.int (122 : Int32)), (.int ch)]))) (fun _ kk => XS.icmpNo X0.here hx rfl (hb hby d10_39) rfl (flt hcc4).2.2.1 (XS.iloadN X0.here hx rfl (hb hby d10_42) rfl (XS.bipush X0.here hx rfl (hb hby d10_43) kk))) ?_
          by_cases hcc5 : (122 : Int32) < ch
          · refine go_of (B := (s₁.setTop (mkF m 53 #[.val (.int ch)] [(.int (0 : Int32))]))) (fun _ kk => XS.icmpYes X0.here hx rfl (pc0 := 45) (pc' := 52) rfl (hb hby d10_45) rfl (tlt hcc5).2.2.1 (by decide) (by decide) (XS.iconst X0.here hx rfl (hb hby d10_52) kk)) ?_
            refine go_end X0 (v := some (.int (nar .boolean (0 : Int32)))) (fun h => by rw [Bd.returns] at h; cases h) Bd.notSynchronized (by decide) (by decide) (Q := (Q_okc Z ch h0 n0)) ?_ (fun fs hr => retN X0 hx (t := .boolean) Bd.returns (by simp) (hb hby d10_53) hr)
            unfold Q_okc
            try rw [e0]
            refine ⟨?_, N0, rfl⟩
            have hq : own_okB ch = false := (by simp only [Int32.lt_iff_toInt_lt, ← Int32.toInt_inj, own_t48, own_t57, own_t65, own_t90, own_t95, own_t97, own_t122] at hcc1 hcc2 hcc3 hcc4 hcc5; simp only [own_okB, Bool.or_eq_false_iff, Bool.and_eq_false_iff, decide_eq_false_iff_not]; omega)
            rw [own_oki, hq]; rfl
          · refine go_of (B := (s₁.setTop (mkF m 53 #[.val (.int ch)] [(.int (1 : Int32))]))) (fun _ kk => XS.icmpNo X0.here hx rfl (hb hby d10_45) rfl (flt hcc5).2.2.1 (XS.iconst X0.here hx rfl (hb hby d10_48) (XS.goto X0.here hx rfl (pc0 := 49) (pc' := 53) rfl (hb hby d10_49) (by decide) (by decide) kk))) ?_
            refine go_end X0 (v := some (.int (nar .boolean (1 : Int32)))) (fun h => by rw [Bd.returns] at h; cases h) Bd.notSynchronized (by decide) (by decide) (Q := (Q_okc Z ch h0 n0)) ?_ (fun fs hr => retN X0 hx (t := .boolean) Bd.returns (by simp) (hb hby d10_53) hr)
            unfold Q_okc
            try rw [e0]
            refine ⟨?_, N0, rfl⟩
            have hq : own_okB ch = true := (by simp only [Int32.lt_iff_toInt_lt, ← Int32.toInt_inj, own_t48, own_t57, own_t65, own_t90, own_t95, own_t97, own_t122] at hcc1 hcc2 hcc3 hcc4 hcc5; simp only [own_okB, Bool.or_eq_true, Bool.and_eq_true, decide_eq_true_eq]; omega)
            rw [own_oki, hq]; rfl
      · refine go_of (B := (s₁.setTop (mkF m 31 #[.val (.int ch)] [(.int (90 : Int32)), (.int ch)]))) (fun _ kk => XS.icmpNo X0.here hx rfl (hb hby d10_25) rfl (flt hcc3).2.2.1 (XS.iloadN X0.here hx rfl (hb hby d10_28) rfl (XS.bipush X0.here hx rfl (hb hby d10_29) kk))) ?_
        by_cases hcc6 : (90 : Int32) < ch
        · refine go_of (B := (s₁.setTop (mkF m 39 #[.val (.int ch)] [(.int ch), (.int (97 : Int32))]))) (fun _ kk => XS.icmpYes X0.here hx rfl (pc0 := 31) (pc' := 36) rfl (hb hby d10_31) rfl (tlt hcc6).2.2.1 (by decide) (by decide) (XS.bipush X0.here hx rfl (hb hby d10_36) (XS.iloadN X0.here hx rfl (hb hby d10_38) rfl kk))) ?_
          by_cases hcc7 : ch < (97 : Int32)
          · refine go_of (B := (s₁.setTop (mkF m 53 #[.val (.int ch)] [(.int (0 : Int32))]))) (fun _ kk => XS.icmpYes X0.here hx rfl (pc0 := 39) (pc' := 52) rfl (hb hby d10_39) rfl (tlt hcc7).2.2.1 (by decide) (by decide) (XS.iconst X0.here hx rfl (hb hby d10_52) kk)) ?_
            refine go_end X0 (v := some (.int (nar .boolean (0 : Int32)))) (fun h => by rw [Bd.returns] at h; cases h) Bd.notSynchronized (by decide) (by decide) (Q := (Q_okc Z ch h0 n0)) ?_ (fun fs hr => retN X0 hx (t := .boolean) Bd.returns (by simp) (hb hby d10_53) hr)
            unfold Q_okc
            try rw [e0]
            refine ⟨?_, N0, rfl⟩
            have hq : own_okB ch = false := (by simp only [Int32.lt_iff_toInt_lt, ← Int32.toInt_inj, own_t48, own_t57, own_t65, own_t90, own_t95, own_t97, own_t122] at hcc1 hcc2 hcc3 hcc6 hcc7; simp only [own_okB, Bool.or_eq_false_iff, Bool.and_eq_false_iff, decide_eq_false_iff_not]; omega)
            rw [own_oki, hq]; rfl
          · refine go_of (B := (s₁.setTop (mkF m 45 #[.val (.int ch)] [(.int (122 : Int32)), (.int ch)]))) (fun _ kk => XS.icmpNo X0.here hx rfl (hb hby d10_39) rfl (flt hcc7).2.2.1 (XS.iloadN X0.here hx rfl (hb hby d10_42) rfl (XS.bipush X0.here hx rfl (hb hby d10_43) kk))) ?_
            by_cases hcc8 : (122 : Int32) < ch
            · refine go_of (B := (s₁.setTop (mkF m 53 #[.val (.int ch)] [(.int (0 : Int32))]))) (fun _ kk => XS.icmpYes X0.here hx rfl (pc0 := 45) (pc' := 52) rfl (hb hby d10_45) rfl (tlt hcc8).2.2.1 (by decide) (by decide) (XS.iconst X0.here hx rfl (hb hby d10_52) kk)) ?_
              refine go_end X0 (v := some (.int (nar .boolean (0 : Int32)))) (fun h => by rw [Bd.returns] at h; cases h) Bd.notSynchronized (by decide) (by decide) (Q := (Q_okc Z ch h0 n0)) ?_ (fun fs hr => retN X0 hx (t := .boolean) Bd.returns (by simp) (hb hby d10_53) hr)
              unfold Q_okc
              try rw [e0]
              refine ⟨?_, N0, rfl⟩
              have hq : own_okB ch = false := (by simp only [Int32.lt_iff_toInt_lt, ← Int32.toInt_inj, own_t48, own_t57, own_t65, own_t90, own_t95, own_t97, own_t122] at hcc1 hcc2 hcc3 hcc6 hcc7 hcc8; simp only [own_okB, Bool.or_eq_false_iff, Bool.and_eq_false_iff, decide_eq_false_iff_not]; omega)
              rw [own_oki, hq]; rfl
            · refine go_of (B := (s₁.setTop (mkF m 53 #[.val (.int ch)] [(.int (1 : Int32))]))) (fun _ kk => XS.icmpNo X0.here hx rfl (hb hby d10_45) rfl (flt hcc8).2.2.1 (XS.iconst X0.here hx rfl (hb hby d10_48) (XS.goto X0.here hx rfl (pc0 := 49) (pc' := 53) rfl (hb hby d10_49) (by decide) (by decide) kk))) ?_
              refine go_end X0 (v := some (.int (nar .boolean (1 : Int32)))) (fun h => by rw [Bd.returns] at h; cases h) Bd.notSynchronized (by decide) (by decide) (Q := (Q_okc Z ch h0 n0)) ?_ (fun fs hr => retN X0 hx (t := .boolean) Bd.returns (by simp) (hb hby d10_53) hr)
              unfold Q_okc
              try rw [e0]
              refine ⟨?_, N0, rfl⟩
              have hq : own_okB ch = true := (by simp only [Int32.lt_iff_toInt_lt, ← Int32.toInt_inj, own_t48, own_t57, own_t65, own_t90, own_t95, own_t97, own_t122] at hcc1 hcc2 hcc3 hcc6 hcc7 hcc8; simp only [own_okB, Bool.or_eq_true, Bool.and_eq_true, decide_eq_true_eq]; omega)
              rw [own_oki, hq]; rfl
        · refine go_of (B := (s₁.setTop (mkF m 35 #[.val (.int ch)] [(.int (1 : Int32))]))) (fun _ kk => XS.icmpNo X0.here hx rfl (hb hby d10_31) rfl (flt hcc6).2.2.1 (XS.iconst X0.here hx rfl (hb hby d10_34) kk)) ?_
          refine go_end X0 (v := some (.int (nar .boolean (1 : Int32)))) (fun h => by rw [Bd.returns] at h; cases h) Bd.notSynchronized (by decide) (by decide) (Q := (Q_okc Z ch h0 n0)) ?_ (fun fs hr => retN X0 hx (t := .boolean) Bd.returns (by simp) (hb hby d10_35) hr)
          unfold Q_okc
          try rw [e0]
          refine ⟨?_, N0, rfl⟩
          have hq : own_okB ch = true := (by simp only [Int32.lt_iff_toInt_lt, ← Int32.toInt_inj, own_t48, own_t57, own_t65, own_t90, own_t95, own_t97, own_t122] at hcc1 hcc2 hcc3 hcc6; simp only [own_okB, Bool.or_eq_true, Bool.and_eq_true, decide_eq_true_eq]; omega)
          rw [own_oki, hq]; rfl
    · refine go_of (B := (s₁.setTop (mkF m 17 #[.val (.int ch)] [(.int (57 : Int32)), (.int ch)]))) (fun _ kk => XS.icmpNo X0.here hx rfl (hb hby d10_11) rfl (flt hcc2).2.2.1 (XS.iloadN X0.here hx rfl (hb hby d10_14) rfl (XS.bipush X0.here hx rfl (hb hby d10_15) kk))) ?_
      by_cases hcc9 : (57 : Int32) < ch
      · refine go_of (B := (s₁.setTop (mkF m 25 #[.val (.int ch)] [(.int ch), (.int (65 : Int32))]))) (fun _ kk => XS.icmpYes X0.here hx rfl (pc0 := 17) (pc' := 22) rfl (hb hby d10_17) rfl (tlt hcc9).2.2.1 (by decide) (by decide) (XS.bipush X0.here hx rfl (hb hby d10_22) (XS.iloadN X0.here hx rfl (hb hby d10_24) rfl kk))) ?_
        by_cases hcc10 : ch < (65 : Int32)
        · refine go_of (B := (s₁.setTop (mkF m 39 #[.val (.int ch)] [(.int ch), (.int (97 : Int32))]))) (fun _ kk => XS.icmpYes X0.here hx rfl (pc0 := 25) (pc' := 36) rfl (hb hby d10_25) rfl (tlt hcc10).2.2.1 (by decide) (by decide) (XS.bipush X0.here hx rfl (hb hby d10_36) (XS.iloadN X0.here hx rfl (hb hby d10_38) rfl kk))) ?_
          by_cases hcc11 : ch < (97 : Int32)
          · refine go_of (B := (s₁.setTop (mkF m 53 #[.val (.int ch)] [(.int (0 : Int32))]))) (fun _ kk => XS.icmpYes X0.here hx rfl (pc0 := 39) (pc' := 52) rfl (hb hby d10_39) rfl (tlt hcc11).2.2.1 (by decide) (by decide) (XS.iconst X0.here hx rfl (hb hby d10_52) kk)) ?_
            refine go_end X0 (v := some (.int (nar .boolean (0 : Int32)))) (fun h => by rw [Bd.returns] at h; cases h) Bd.notSynchronized (by decide) (by decide) (Q := (Q_okc Z ch h0 n0)) ?_ (fun fs hr => retN X0 hx (t := .boolean) Bd.returns (by simp) (hb hby d10_53) hr)
            unfold Q_okc
            try rw [e0]
            refine ⟨?_, N0, rfl⟩
            have hq : own_okB ch = false := (by simp only [Int32.lt_iff_toInt_lt, ← Int32.toInt_inj, own_t48, own_t57, own_t65, own_t90, own_t95, own_t97, own_t122] at hcc1 hcc2 hcc9 hcc10 hcc11; simp only [own_okB, Bool.or_eq_false_iff, Bool.and_eq_false_iff, decide_eq_false_iff_not]; omega)
            rw [own_oki, hq]; rfl
          · refine go_of (B := (s₁.setTop (mkF m 45 #[.val (.int ch)] [(.int (122 : Int32)), (.int ch)]))) (fun _ kk => XS.icmpNo X0.here hx rfl (hb hby d10_39) rfl (flt hcc11).2.2.1 (XS.iloadN X0.here hx rfl (hb hby d10_42) rfl (XS.bipush X0.here hx rfl (hb hby d10_43) kk))) ?_
            by_cases hcc12 : (122 : Int32) < ch
            · refine go_of (B := (s₁.setTop (mkF m 53 #[.val (.int ch)] [(.int (0 : Int32))]))) (fun _ kk => XS.icmpYes X0.here hx rfl (pc0 := 45) (pc' := 52) rfl (hb hby d10_45) rfl (tlt hcc12).2.2.1 (by decide) (by decide) (XS.iconst X0.here hx rfl (hb hby d10_52) kk)) ?_
              refine go_end X0 (v := some (.int (nar .boolean (0 : Int32)))) (fun h => by rw [Bd.returns] at h; cases h) Bd.notSynchronized (by decide) (by decide) (Q := (Q_okc Z ch h0 n0)) ?_ (fun fs hr => retN X0 hx (t := .boolean) Bd.returns (by simp) (hb hby d10_53) hr)
              unfold Q_okc
              try rw [e0]
              refine ⟨?_, N0, rfl⟩
              have hq : own_okB ch = false := (by simp only [Int32.lt_iff_toInt_lt, ← Int32.toInt_inj, own_t48, own_t57, own_t65, own_t90, own_t95, own_t97, own_t122] at hcc1 hcc2 hcc9 hcc10 hcc11 hcc12; simp only [own_okB, Bool.or_eq_false_iff, Bool.and_eq_false_iff, decide_eq_false_iff_not]; omega)
              rw [own_oki, hq]; rfl
            · refine go_of (B := (s₁.setTop (mkF m 53 #[.val (.int ch)] [(.int (1 : Int32))]))) (fun _ kk => XS.icmpNo X0.here hx rfl (hb hby d10_45) rfl (flt hcc12).2.2.1 (XS.iconst X0.here hx rfl (hb hby d10_48) (XS.goto X0.here hx rfl (pc0 := 49) (pc' := 53) rfl (hb hby d10_49) (by decide) (by decide) kk))) ?_
              refine go_end X0 (v := some (.int (nar .boolean (1 : Int32)))) (fun h => by rw [Bd.returns] at h; cases h) Bd.notSynchronized (by decide) (by decide) (Q := (Q_okc Z ch h0 n0)) ?_ (fun fs hr => retN X0 hx (t := .boolean) Bd.returns (by simp) (hb hby d10_53) hr)
              unfold Q_okc
              try rw [e0]
              refine ⟨?_, N0, rfl⟩
              have hq : own_okB ch = true := (by simp only [Int32.lt_iff_toInt_lt, ← Int32.toInt_inj, own_t48, own_t57, own_t65, own_t90, own_t95, own_t97, own_t122] at hcc1 hcc2 hcc9 hcc10 hcc11 hcc12; simp only [own_okB, Bool.or_eq_true, Bool.and_eq_true, decide_eq_true_eq]; omega)
              rw [own_oki, hq]; rfl
        · refine go_of (B := (s₁.setTop (mkF m 31 #[.val (.int ch)] [(.int (90 : Int32)), (.int ch)]))) (fun _ kk => XS.icmpNo X0.here hx rfl (hb hby d10_25) rfl (flt hcc10).2.2.1 (XS.iloadN X0.here hx rfl (hb hby d10_28) rfl (XS.bipush X0.here hx rfl (hb hby d10_29) kk))) ?_
          by_cases hcc13 : (90 : Int32) < ch
          · refine go_of (B := (s₁.setTop (mkF m 39 #[.val (.int ch)] [(.int ch), (.int (97 : Int32))]))) (fun _ kk => XS.icmpYes X0.here hx rfl (pc0 := 31) (pc' := 36) rfl (hb hby d10_31) rfl (tlt hcc13).2.2.1 (by decide) (by decide) (XS.bipush X0.here hx rfl (hb hby d10_36) (XS.iloadN X0.here hx rfl (hb hby d10_38) rfl kk))) ?_
            by_cases hcc14 : ch < (97 : Int32)
            · refine go_of (B := (s₁.setTop (mkF m 53 #[.val (.int ch)] [(.int (0 : Int32))]))) (fun _ kk => XS.icmpYes X0.here hx rfl (pc0 := 39) (pc' := 52) rfl (hb hby d10_39) rfl (tlt hcc14).2.2.1 (by decide) (by decide) (XS.iconst X0.here hx rfl (hb hby d10_52) kk)) ?_
              refine go_end X0 (v := some (.int (nar .boolean (0 : Int32)))) (fun h => by rw [Bd.returns] at h; cases h) Bd.notSynchronized (by decide) (by decide) (Q := (Q_okc Z ch h0 n0)) ?_ (fun fs hr => retN X0 hx (t := .boolean) Bd.returns (by simp) (hb hby d10_53) hr)
              unfold Q_okc
              try rw [e0]
              refine ⟨?_, N0, rfl⟩
              have hq : own_okB ch = false := (by simp only [Int32.lt_iff_toInt_lt, ← Int32.toInt_inj, own_t48, own_t57, own_t65, own_t90, own_t95, own_t97, own_t122] at hcc1 hcc2 hcc9 hcc10 hcc13 hcc14; simp only [own_okB, Bool.or_eq_false_iff, Bool.and_eq_false_iff, decide_eq_false_iff_not]; omega)
              rw [own_oki, hq]; rfl
            · refine go_of (B := (s₁.setTop (mkF m 45 #[.val (.int ch)] [(.int (122 : Int32)), (.int ch)]))) (fun _ kk => XS.icmpNo X0.here hx rfl (hb hby d10_39) rfl (flt hcc14).2.2.1 (XS.iloadN X0.here hx rfl (hb hby d10_42) rfl (XS.bipush X0.here hx rfl (hb hby d10_43) kk))) ?_
              by_cases hcc15 : (122 : Int32) < ch
              · refine go_of (B := (s₁.setTop (mkF m 53 #[.val (.int ch)] [(.int (0 : Int32))]))) (fun _ kk => XS.icmpYes X0.here hx rfl (pc0 := 45) (pc' := 52) rfl (hb hby d10_45) rfl (tlt hcc15).2.2.1 (by decide) (by decide) (XS.iconst X0.here hx rfl (hb hby d10_52) kk)) ?_
                refine go_end X0 (v := some (.int (nar .boolean (0 : Int32)))) (fun h => by rw [Bd.returns] at h; cases h) Bd.notSynchronized (by decide) (by decide) (Q := (Q_okc Z ch h0 n0)) ?_ (fun fs hr => retN X0 hx (t := .boolean) Bd.returns (by simp) (hb hby d10_53) hr)
                unfold Q_okc
                try rw [e0]
                refine ⟨?_, N0, rfl⟩
                have hq : own_okB ch = false := (by simp only [Int32.lt_iff_toInt_lt, ← Int32.toInt_inj, own_t48, own_t57, own_t65, own_t90, own_t95, own_t97, own_t122] at hcc1 hcc2 hcc9 hcc10 hcc13 hcc14 hcc15; simp only [own_okB, Bool.or_eq_false_iff, Bool.and_eq_false_iff, decide_eq_false_iff_not]; omega)
                rw [own_oki, hq]; rfl
              · refine go_of (B := (s₁.setTop (mkF m 53 #[.val (.int ch)] [(.int (1 : Int32))]))) (fun _ kk => XS.icmpNo X0.here hx rfl (hb hby d10_45) rfl (flt hcc15).2.2.1 (XS.iconst X0.here hx rfl (hb hby d10_48) (XS.goto X0.here hx rfl (pc0 := 49) (pc' := 53) rfl (hb hby d10_49) (by decide) (by decide) kk))) ?_
                refine go_end X0 (v := some (.int (nar .boolean (1 : Int32)))) (fun h => by rw [Bd.returns] at h; cases h) Bd.notSynchronized (by decide) (by decide) (Q := (Q_okc Z ch h0 n0)) ?_ (fun fs hr => retN X0 hx (t := .boolean) Bd.returns (by simp) (hb hby d10_53) hr)
                unfold Q_okc
                try rw [e0]
                refine ⟨?_, N0, rfl⟩
                have hq : own_okB ch = true := (by simp only [Int32.lt_iff_toInt_lt, ← Int32.toInt_inj, own_t48, own_t57, own_t65, own_t90, own_t95, own_t97, own_t122] at hcc1 hcc2 hcc9 hcc10 hcc13 hcc14 hcc15; simp only [own_okB, Bool.or_eq_true, Bool.and_eq_true, decide_eq_true_eq]; omega)
                rw [own_oki, hq]; rfl
          · refine go_of (B := (s₁.setTop (mkF m 35 #[.val (.int ch)] [(.int (1 : Int32))]))) (fun _ kk => XS.icmpNo X0.here hx rfl (hb hby d10_31) rfl (flt hcc13).2.2.1 (XS.iconst X0.here hx rfl (hb hby d10_34) kk)) ?_
            refine go_end X0 (v := some (.int (nar .boolean (1 : Int32)))) (fun h => by rw [Bd.returns] at h; cases h) Bd.notSynchronized (by decide) (by decide) (Q := (Q_okc Z ch h0 n0)) ?_ (fun fs hr => retN X0 hx (t := .boolean) Bd.returns (by simp) (hb hby d10_35) hr)
            unfold Q_okc
            try rw [e0]
            refine ⟨?_, N0, rfl⟩
            have hq : own_okB ch = true := (by simp only [Int32.lt_iff_toInt_lt, ← Int32.toInt_inj, own_t48, own_t57, own_t65, own_t90, own_t95, own_t97, own_t122] at hcc1 hcc2 hcc9 hcc10 hcc13; simp only [own_okB, Bool.or_eq_true, Bool.and_eq_true, decide_eq_true_eq]; omega)
            rw [own_oki, hq]; rfl
      · refine go_of (B := (s₁.setTop (mkF m 21 #[.val (.int ch)] [(.int (1 : Int32))]))) (fun _ kk => XS.icmpNo X0.here hx rfl (hb hby d10_17) rfl (flt hcc9).2.2.1 (XS.iconst X0.here hx rfl (hb hby d10_20) kk)) ?_
        refine go_end X0 (v := some (.int (nar .boolean (1 : Int32)))) (fun h => by rw [Bd.returns] at h; cases h) Bd.notSynchronized (by decide) (by decide) (Q := (Q_okc Z ch h0 n0)) ?_ (fun fs hr => retN X0 hx (t := .boolean) Bd.returns (by simp) (hb hby d10_21) hr)
        unfold Q_okc
        try rw [e0]
        refine ⟨?_, N0, rfl⟩
        have hq : own_okB ch = true := (by simp only [Int32.lt_iff_toInt_lt, ← Int32.toInt_inj, own_t48, own_t57, own_t65, own_t90, own_t95, own_t97, own_t122] at hcc1 hcc2 hcc9; simp only [own_okB, Bool.or_eq_true, Bool.and_eq_true, decide_eq_true_eq]; omega)
        rw [own_oki, hq]; rfl
theorem d1_0 : decode method_3_code 0 = .ok (.iload_n 0, 1) := by decide +kernel
theorem d1_1 : decode method_3_code 1 = .ok (.ifCond .ne 7, 3) := by decide +kernel
theorem d1_4 : decode method_3_code 4 = .ok (.iconst 0, 1) := by decide +kernel
theorem d1_5 : decode method_3_code 5 = .ok (.newarray .char, 2) := by decide +kernel
theorem d1_7 : decode method_3_code 7 = .ok (.areturn, 1) := by decide +kernel
def Q_bu_0 (Z : State) (c0 : Int32) (c1 : Int32) (c2 : Int32) (c3 : Int32) (h0 : Heap) (n0 : Nat) (v : Option Value) (h : Heap) (L : List Loc) : Prop := ∃ (t : Addr) (k : ClassId), v = some (.ref t) ∧ Fr n0 L ∧ h0.size ≤ t ∧ Keep h0 h [] ∧ Arv Z h t k .char 0 [] (.int 0)
theorem ef_bu_0 (m : MethodId) (c0 : Int32) (c1 : Int32) (c2 : Int32) (c3 : Int32)  : entryFrame m #[(.int (0 : Int32)), (.int c0), (.int c1), (.int c2), (.int c3)] 5 = mkF m 0 #[.val (.int (0 : Int32)), .val (.int c0), .val (.int c1), .val (.int c2), .val (.int c3)] [] := by first | (simp [entryFrame, mkF, argsToLocals, Value.category]; done) | rfl
theorem bu_0 (l : Launch) (Z : State) (a0 : Array Value) (hw : TW a0 Z) (ws : List Jvm.Cond) (c0 : Int32) (c1 : Int32) (c2 : Int32) (c3 : Int32) (h0 : Heap) (n0 : Nat) (Z0 : n0 ≤ h0.size) (hc0 : ¬ c0 < 0 ∧ ¬ (65535 : Int32) < c0) (hc1 : ¬ c1 < 0 ∧ ¬ (65535 : Int32) < c1) (hc2 : ¬ c2 < 0 ∧ ¬ (65535 : Int32) < c2) (hc3 : ¬ c3 < 0 ∧ ¬ (65535 : Int32) < c3) :
    own_MF l Z MN1 method_3_code 5 (some (.array .char)) ws (own_R 0 1 0 0) #[(.int (0 : Int32)), (.int c0), (.int c1), (.int c2), (.int c3)] h0 (Q_bu_0 Z c0 c1 c2 c3 h0 n0) := by
  have wd := @own_wd _ _ hw
  refine MetFree.of_bodySF (plainFor_of_name pn_com_example_libpubid_libpubid_store_NamesIsNamePinLaw) hisR ?_
  intro p e s m args below meth c s₁ Bd hml0 hP hK
  obtain ⟨rfl, hZ, hh⟩ := hP
  have hx := Bd.exec
  have hby := Bd.bytes
  have hml : c.maxLocals = 5 := hml0
  have hown : s.vm.findClass "com/example/libpubid/libpubid/store/NamesIsNamePinLaw" = some m.cls := findClass_of_methodNamed Bd.named
  have hnm := (name_of_methodNamed Bd.named Bd.method).1
  have X0 : Stand p l e (own_R 0 1 0 0) s m #[(.int (0 : Int32)), (.int c0), (.int c1), (.int c2), (.int c3)] below meth c s₁ [] 0 0 := Stand.of_body Bd
  have e0 : s₁.heap = h0 := by rw [← hh, Bd.state]; rfl
  have N0 := Fr.nil n0
  refine go_of (A := s₁.setTop (entryFrame m #[(.int (0 : Int32)), (.int c0), (.int c1), (.int c2), (.int c3)] 5)) (B := s₁.setTop (mkF m 0 #[.val (.int (0 : Int32)), .val (.int c0), .val (.int c1), .val (.int c2), .val (.int c3)] [])) (fun _ kk' => castTop (ef_bu_0 m c0 c1 c2 c3) kk') ?_
  refine go_of (B := (s₁.setTop (mkF m 5 #[.val (.int (0 : Int32)), .val (.int c0), .val (.int c1), .val (.int c2), .val (.int c3)] [(.int (0 : Int32))]))) (fun _ kk => XS.iloadN X0.here hx rfl (hb hby d1_0) rfl (XS.ifNo X0.here hx rfl (hb hby d1_1) rfl ((if0 _ _).trans (teq (by decide : (0 : Int32) = (0 : Int32))).2) (XS.iconst X0.here hx rfl (hb hby d1_4) kk))) ?_
  obtain ⟨T1, h1, k1, X1, e1, E1, A1, st1⟩ := newP X0 hx hZ (wd 8 rfl) e0 (g := (mkF m 5 #[.val (.int (0 : Int32)), .val (.int c0), .val (.int c1), .val (.int c2), .val (.int c3)] [(.int (0 : Int32))])) rfl (hb hby d1_5) rfl (by decide) (cap := 0) (by decide) (by decide) (by decide) (by decide)
  obtain ⟨b1, g1⟩ : ∃ z, z = h0.size := ⟨_, rfl⟩
  rw [← g1] at A1 st1
  have hi1 := own_nlt A1.lt
  have sz1 := E1.1
  have V1 : Arv Z h1 b1 k1 .char (0 : Int32) [] (.int (0 : Int32)) := (Arv.new A1 (by decide)).pad (pad_rep [] (.int (0 : Int32)) 0)
  refine go_of (B := (T1.setTop (mkF m 7 #[.val (.int (0 : Int32)), .val (.int c0), .val (.int c1), .val (.int c2), .val (.int c3)] [(.ref b1)]))) (st1) ?_
  refine go_end X1 (v := some (.ref b1)) (fun h => by rw [Bd.returns] at h; cases h) Bd.notSynchronized (by decide) (by decide) (Q := (Q_bu_0 Z c0 c1 c2 c3 h0 n0)) ?_ (fun fs hr => own_retA X1 hx Bd.returns rfl rfl (hb hby d1_7) hr)
  unfold Q_bu_0
  try rw [e1]
  exact ⟨b1, k1, rfl, N0, by omega, ((Keep.refl h0 []).ext E1), V1⟩
theorem d1_8 : decode method_3_code 8 = .ok (.iload_n 0, 1) := by decide +kernel
theorem d1_9 : decode method_3_code 9 = .ok (.iconst 1, 1) := by decide +kernel
theorem d1_10 : decode method_3_code 10 = .ok (.if_icmp .ne 11, 3) := by decide +kernel
theorem d1_13 : decode method_3_code 13 = .ok (.iconst 1, 1) := by decide +kernel
theorem d1_14 : decode method_3_code 14 = .ok (.newarray .char, 2) := by decide +kernel
theorem d1_16 : decode method_3_code 16 = .ok (.dup, 1) := by decide +kernel
theorem d1_17 : decode method_3_code 17 = .ok (.iconst 0, 1) := by decide +kernel
theorem d1_18 : decode method_3_code 18 = .ok (.iload_n 1, 1) := by decide +kernel
theorem d1_19 : decode method_3_code 19 = .ok (.castore, 1) := by decide +kernel
theorem d1_20 : decode method_3_code 20 = .ok (.areturn, 1) := by decide +kernel
def Q_bu_1 (Z : State) (c0 : Int32) (c1 : Int32) (c2 : Int32) (c3 : Int32) (h0 : Heap) (n0 : Nat) (v : Option Value) (h : Heap) (L : List Loc) : Prop := ∃ (t : Addr) (k : ClassId), v = some (.ref t) ∧ Fr n0 L ∧ h0.size ≤ t ∧ Keep h0 h [] ∧ Arv Z h t k .char 1 [(.int c0)] (.int 0)
theorem ef_bu_1 (m : MethodId) (c0 : Int32) (c1 : Int32) (c2 : Int32) (c3 : Int32)  : entryFrame m #[(.int (1 : Int32)), (.int c0), (.int c1), (.int c2), (.int c3)] 5 = mkF m 0 #[.val (.int (1 : Int32)), .val (.int c0), .val (.int c1), .val (.int c2), .val (.int c3)] [] := by first | (simp [entryFrame, mkF, argsToLocals, Value.category]; done) | rfl
theorem bu_1 (l : Launch) (Z : State) (a0 : Array Value) (hw : TW a0 Z) (ws : List Jvm.Cond) (c0 : Int32) (c1 : Int32) (c2 : Int32) (c3 : Int32) (h0 : Heap) (n0 : Nat) (Z0 : n0 ≤ h0.size) (hc0 : ¬ c0 < 0 ∧ ¬ (65535 : Int32) < c0) (hc1 : ¬ c1 < 0 ∧ ¬ (65535 : Int32) < c1) (hc2 : ¬ c2 < 0 ∧ ¬ (65535 : Int32) < c2) (hc3 : ¬ c3 < 0 ∧ ¬ (65535 : Int32) < c3) :
    own_MF l Z MN1 method_3_code 5 (some (.array .char)) ws (own_R 0 1 1 0) #[(.int (1 : Int32)), (.int c0), (.int c1), (.int c2), (.int c3)] h0 (Q_bu_1 Z c0 c1 c2 c3 h0 n0) := by
  have wd := @own_wd _ _ hw
  refine MetFree.of_bodySF (plainFor_of_name pn_com_example_libpubid_libpubid_store_NamesIsNamePinLaw) hisR ?_
  intro p e s m args below meth c s₁ Bd hml0 hP hK
  obtain ⟨rfl, hZ, hh⟩ := hP
  have hx := Bd.exec
  have hby := Bd.bytes
  have hml : c.maxLocals = 5 := hml0
  have hown : s.vm.findClass "com/example/libpubid/libpubid/store/NamesIsNamePinLaw" = some m.cls := findClass_of_methodNamed Bd.named
  have hnm := (name_of_methodNamed Bd.named Bd.method).1
  have X0 : Stand p l e (own_R 0 1 1 0) s m #[(.int (1 : Int32)), (.int c0), (.int c1), (.int c2), (.int c3)] below meth c s₁ [] 0 0 := Stand.of_body Bd
  have e0 : s₁.heap = h0 := by rw [← hh, Bd.state]; rfl
  have N0 := Fr.nil n0
  refine go_of (A := s₁.setTop (entryFrame m #[(.int (1 : Int32)), (.int c0), (.int c1), (.int c2), (.int c3)] 5)) (B := s₁.setTop (mkF m 0 #[.val (.int (1 : Int32)), .val (.int c0), .val (.int c1), .val (.int c2), .val (.int c3)] [])) (fun _ kk' => castTop (ef_bu_1 m c0 c1 c2 c3) kk') ?_
  refine go_of (B := (s₁.setTop (mkF m 14 #[.val (.int (1 : Int32)), .val (.int c0), .val (.int c1), .val (.int c2), .val (.int c3)] [(.int (1 : Int32))]))) (fun _ kk => XS.iloadN X0.here hx rfl (hb hby d1_0) rfl (XS.ifYes X0.here hx rfl (pc0 := 1) (pc' := 8) rfl (hb hby d1_1) rfl ((if0 _ _).trans (feq (by decide : ¬ ((1 : Int32) = (0 : Int32)))).2) (by decide) (by decide) (XS.iloadN X0.here hx rfl (hb hby d1_8) rfl (XS.iconst X0.here hx rfl (hb hby d1_9) (XS.icmpNo X0.here hx rfl (hb hby d1_10) rfl (teq (by decide : (1 : Int32) = (1 : Int32))).2 (XS.iconst X0.here hx rfl (hb hby d1_13) kk)))))) ?_
  obtain ⟨T1, h1, k1, X1, e1, E1, A1, st1⟩ := newP X0 hx hZ (wd 8 rfl) e0 (g := (mkF m 14 #[.val (.int (1 : Int32)), .val (.int c0), .val (.int c1), .val (.int c2), .val (.int c3)] [(.int (1 : Int32))])) rfl (hb hby d1_14) rfl (by decide) (cap := 1) (by decide) (by decide) (by decide) (by decide)
  obtain ⟨b1, g1⟩ : ∃ z, z = h0.size := ⟨_, rfl⟩
  rw [← g1] at A1 st1
  have hi1 := own_nlt A1.lt
  have sz1 := E1.1
  have V1 : Arv Z h1 b1 k1 .char (1 : Int32) [(.int (0 : Int32))] (.int (0 : Int32)) := (Arv.new A1 (by decide)).pad (pad_rep [] (.int (0 : Int32)) 1)
  refine go_of (B := (T1.setTop (mkF m 16 #[.val (.int (1 : Int32)), .val (.int c0), .val (.int c1), .val (.int c2), .val (.int c3)] [(.ref b1)]))) (st1) ?_
  refine go_of (B := (T1.setTop (mkF m 19 #[.val (.int (1 : Int32)), .val (.int c0), .val (.int c1), .val (.int c2), .val (.int c3)] [(.int c0), (.int (0 : Int32)), (.ref b1), (.ref b1)]))) (fun _ kk => XS.dup X1.here hx rfl (hb hby d1_16) rfl rfl (XS.iconst X1.here hx rfl (hb hby d1_17) (XS.iloadN X1.here hx rfl (hb hby d1_18) rfl kk))) ?_
  obtain ⟨cl2, Ar2, q2, Sz2, Nn2, Hh2, G2⟩ := id (V1)
  obtain ⟨T3, h3, X3, e3, W3, st3⟩ := stC X1 hx hZ e1 Ar2 (j := (0 : Int32)) (inb_of Sz2 ⟨by decide, by decide⟩) (g := (mkF m 19 #[.val (.int (1 : Int32)), .val (.int c0), .val (.int c1), .val (.int c2), .val (.int c3)] [(.int c0), (.int (0 : Int32)), (.ref b1), (.ref b1)])) rfl rfl (hb hby d1_19)
  have sz3 := W3.size
  have N3 := Fr.snoc X3 N0 ((by first | omega | exact own_ne (by omega) | exact own_le (by omega) | exact own_lt (by omega)) : n0 ≤ b1)
  have V3 : Arv Z h3 b1 k1 .char (1 : Int32) [(.int (nar .char c0))] (.int (0 : Int32)) := Arv.set Ar2 q2 Sz2 Nn2 Hh2 G2 (fits_nar_char _) W3 0 rfl (Nat.le_of_ble_eq_true rfl)
  rw [own_narc16 hc0] at V3
  refine go_of (B := (T3.setTop (mkF m 20 #[.val (.int (1 : Int32)), .val (.int c0), .val (.int c1), .val (.int c2), .val (.int c3)] [(.ref b1)]))) (st3) ?_
  refine go_end X3 (v := some (.ref b1)) (fun h => by rw [Bd.returns] at h; cases h) Bd.notSynchronized (by decide) (by decide) (Q := (Q_bu_1 Z c0 c1 c2 c3 h0 n0)) ?_ (fun fs hr => own_retA X3 hx Bd.returns rfl rfl (hb hby d1_20) hr)
  unfold Q_bu_1
  try rw [e3]
  exact ⟨b1, k1, rfl, N3, by omega, (((Keep.refl h0 []).ext E1).wr W3 (Or.inr (by first | omega | exact own_ne (by omega) | exact own_le (by omega) | exact own_lt (by omega)))), V3⟩
theorem d1_21 : decode method_3_code 21 = .ok (.iload_n 0, 1) := by decide +kernel
theorem d1_22 : decode method_3_code 22 = .ok (.iconst 2, 1) := by decide +kernel
theorem d1_23 : decode method_3_code 23 = .ok (.if_icmp .ne 15, 3) := by decide +kernel
theorem d1_26 : decode method_3_code 26 = .ok (.iconst 2, 1) := by decide +kernel
theorem d1_27 : decode method_3_code 27 = .ok (.newarray .char, 2) := by decide +kernel
theorem d1_29 : decode method_3_code 29 = .ok (.dup, 1) := by decide +kernel
theorem d1_30 : decode method_3_code 30 = .ok (.iconst 0, 1) := by decide +kernel
theorem d1_31 : decode method_3_code 31 = .ok (.iload_n 1, 1) := by decide +kernel
theorem d1_32 : decode method_3_code 32 = .ok (.castore, 1) := by decide +kernel
theorem d1_33 : decode method_3_code 33 = .ok (.dup, 1) := by decide +kernel
theorem d1_34 : decode method_3_code 34 = .ok (.iconst 1, 1) := by decide +kernel
theorem d1_35 : decode method_3_code 35 = .ok (.iload_n 2, 1) := by decide +kernel
theorem d1_36 : decode method_3_code 36 = .ok (.castore, 1) := by decide +kernel
theorem d1_37 : decode method_3_code 37 = .ok (.areturn, 1) := by decide +kernel
def Q_bu_2 (Z : State) (c0 : Int32) (c1 : Int32) (c2 : Int32) (c3 : Int32) (h0 : Heap) (n0 : Nat) (v : Option Value) (h : Heap) (L : List Loc) : Prop := ∃ (t : Addr) (k : ClassId), v = some (.ref t) ∧ Fr n0 L ∧ h0.size ≤ t ∧ Keep h0 h [] ∧ Arv Z h t k .char 2 [(.int c0), (.int c1)] (.int 0)
theorem ef_bu_2 (m : MethodId) (c0 : Int32) (c1 : Int32) (c2 : Int32) (c3 : Int32)  : entryFrame m #[(.int (2 : Int32)), (.int c0), (.int c1), (.int c2), (.int c3)] 5 = mkF m 0 #[.val (.int (2 : Int32)), .val (.int c0), .val (.int c1), .val (.int c2), .val (.int c3)] [] := by first | (simp [entryFrame, mkF, argsToLocals, Value.category]; done) | rfl
theorem bu_2 (l : Launch) (Z : State) (a0 : Array Value) (hw : TW a0 Z) (ws : List Jvm.Cond) (c0 : Int32) (c1 : Int32) (c2 : Int32) (c3 : Int32) (h0 : Heap) (n0 : Nat) (Z0 : n0 ≤ h0.size) (hc0 : ¬ c0 < 0 ∧ ¬ (65535 : Int32) < c0) (hc1 : ¬ c1 < 0 ∧ ¬ (65535 : Int32) < c1) (hc2 : ¬ c2 < 0 ∧ ¬ (65535 : Int32) < c2) (hc3 : ¬ c3 < 0 ∧ ¬ (65535 : Int32) < c3) :
    own_MF l Z MN1 method_3_code 5 (some (.array .char)) ws (own_R 0 1 2 0) #[(.int (2 : Int32)), (.int c0), (.int c1), (.int c2), (.int c3)] h0 (Q_bu_2 Z c0 c1 c2 c3 h0 n0) := by
  have wd := @own_wd _ _ hw
  refine MetFree.of_bodySF (plainFor_of_name pn_com_example_libpubid_libpubid_store_NamesIsNamePinLaw) hisR ?_
  intro p e s m args below meth c s₁ Bd hml0 hP hK
  obtain ⟨rfl, hZ, hh⟩ := hP
  have hx := Bd.exec
  have hby := Bd.bytes
  have hml : c.maxLocals = 5 := hml0
  have hown : s.vm.findClass "com/example/libpubid/libpubid/store/NamesIsNamePinLaw" = some m.cls := findClass_of_methodNamed Bd.named
  have hnm := (name_of_methodNamed Bd.named Bd.method).1
  have X0 : Stand p l e (own_R 0 1 2 0) s m #[(.int (2 : Int32)), (.int c0), (.int c1), (.int c2), (.int c3)] below meth c s₁ [] 0 0 := Stand.of_body Bd
  have e0 : s₁.heap = h0 := by rw [← hh, Bd.state]; rfl
  have N0 := Fr.nil n0
  refine go_of (A := s₁.setTop (entryFrame m #[(.int (2 : Int32)), (.int c0), (.int c1), (.int c2), (.int c3)] 5)) (B := s₁.setTop (mkF m 0 #[.val (.int (2 : Int32)), .val (.int c0), .val (.int c1), .val (.int c2), .val (.int c3)] [])) (fun _ kk' => castTop (ef_bu_2 m c0 c1 c2 c3) kk') ?_
  refine go_of (B := (s₁.setTop (mkF m 22 #[.val (.int (2 : Int32)), .val (.int c0), .val (.int c1), .val (.int c2), .val (.int c3)] [(.int (2 : Int32))]))) (fun _ kk => XS.iloadN X0.here hx rfl (hb hby d1_0) rfl (XS.ifYes X0.here hx rfl (pc0 := 1) (pc' := 8) rfl (hb hby d1_1) rfl ((if0 _ _).trans (feq (by decide : ¬ ((2 : Int32) = (0 : Int32)))).2) (by decide) (by decide) (XS.iloadN X0.here hx rfl (hb hby d1_8) rfl (XS.iconst X0.here hx rfl (hb hby d1_9) (XS.icmpYes X0.here hx rfl (pc0 := 10) (pc' := 21) rfl (hb hby d1_10) rfl (feq (by decide : ¬ ((2 : Int32) = (1 : Int32)))).2 (by decide) (by decide) (XS.iloadN X0.here hx rfl (hb hby d1_21) rfl kk)))))) ?_
  refine go_of (B := (s₁.setTop (mkF m 27 #[.val (.int (2 : Int32)), .val (.int c0), .val (.int c1), .val (.int c2), .val (.int c3)] [(.int (2 : Int32))]))) (fun _ kk => XS.iconst X0.here hx rfl (hb hby d1_22) (XS.icmpNo X0.here hx rfl (hb hby d1_23) rfl (teq (by decide : (2 : Int32) = (2 : Int32))).2 (XS.iconst X0.here hx rfl (hb hby d1_26) kk))) ?_
  obtain ⟨T1, h1, k1, X1, e1, E1, A1, st1⟩ := newP X0 hx hZ (wd 8 rfl) e0 (g := (mkF m 27 #[.val (.int (2 : Int32)), .val (.int c0), .val (.int c1), .val (.int c2), .val (.int c3)] [(.int (2 : Int32))])) rfl (hb hby d1_27) rfl (by decide) (cap := 2) (by decide) (by decide) (by decide) (by decide)
  obtain ⟨b1, g1⟩ : ∃ z, z = h0.size := ⟨_, rfl⟩
  rw [← g1] at A1 st1
  have hi1 := own_nlt A1.lt
  have sz1 := E1.1
  have V1 : Arv Z h1 b1 k1 .char (2 : Int32) [(.int (0 : Int32)), (.int (0 : Int32))] (.int (0 : Int32)) := (Arv.new A1 (by decide)).pad (pad_rep [] (.int (0 : Int32)) 2)
  refine go_of (B := (T1.setTop (mkF m 29 #[.val (.int (2 : Int32)), .val (.int c0), .val (.int c1), .val (.int c2), .val (.int c3)] [(.ref b1)]))) (st1) ?_
  refine go_of (B := (T1.setTop (mkF m 32 #[.val (.int (2 : Int32)), .val (.int c0), .val (.int c1), .val (.int c2), .val (.int c3)] [(.int c0), (.int (0 : Int32)), (.ref b1), (.ref b1)]))) (fun _ kk => XS.dup X1.here hx rfl (hb hby d1_29) rfl rfl (XS.iconst X1.here hx rfl (hb hby d1_30) (XS.iloadN X1.here hx rfl (hb hby d1_31) rfl kk))) ?_
  obtain ⟨cl2, Ar2, q2, Sz2, Nn2, Hh2, G2⟩ := id (V1)
  obtain ⟨T3, h3, X3, e3, W3, st3⟩ := stC X1 hx hZ e1 Ar2 (j := (0 : Int32)) (inb_of Sz2 ⟨by decide, by decide⟩) (g := (mkF m 32 #[.val (.int (2 : Int32)), .val (.int c0), .val (.int c1), .val (.int c2), .val (.int c3)] [(.int c0), (.int (0 : Int32)), (.ref b1), (.ref b1)])) rfl rfl (hb hby d1_32)
  have sz3 := W3.size
  have N3 := Fr.snoc X3 N0 ((by first | omega | exact own_ne (by omega) | exact own_le (by omega) | exact own_lt (by omega)) : n0 ≤ b1)
  have V3 : Arv Z h3 b1 k1 .char (2 : Int32) [(.int (nar .char c0)), (.int (0 : Int32))] (.int (0 : Int32)) := Arv.set Ar2 q2 Sz2 Nn2 Hh2 G2 (fits_nar_char _) W3 0 rfl (Nat.le_of_ble_eq_true rfl)
  rw [own_narc16 hc0] at V3
  refine go_of (B := (T3.setTop (mkF m 33 #[.val (.int (2 : Int32)), .val (.int c0), .val (.int c1), .val (.int c2), .val (.int c3)] [(.ref b1)]))) (st3) ?_
  refine go_of (B := (T3.setTop (mkF m 36 #[.val (.int (2 : Int32)), .val (.int c0), .val (.int c1), .val (.int c2), .val (.int c3)] [(.int c1), (.int (1 : Int32)), (.ref b1), (.ref b1)]))) (fun _ kk => XS.dup X3.here hx rfl (hb hby d1_33) rfl rfl (XS.iconst X3.here hx rfl (hb hby d1_34) (XS.iloadN X3.here hx rfl (hb hby d1_35) rfl kk))) ?_
  obtain ⟨cl4, Ar4, q4, Sz4, Nn4, Hh4, G4⟩ := id (V3)
  obtain ⟨T5, h5, X5, e5, W5, st5⟩ := stC X3 hx hZ e3 Ar4 (j := (1 : Int32)) (inb_of Sz4 ⟨by decide, by decide⟩) (g := (mkF m 36 #[.val (.int (2 : Int32)), .val (.int c0), .val (.int c1), .val (.int c2), .val (.int c3)] [(.int c1), (.int (1 : Int32)), (.ref b1), (.ref b1)])) rfl rfl (hb hby d1_36)
  have sz5 := W5.size
  have N5 := Fr.snoc X5 N3 ((by first | omega | exact own_ne (by omega) | exact own_le (by omega) | exact own_lt (by omega)) : n0 ≤ b1)
  have V5 : Arv Z h5 b1 k1 .char (2 : Int32) [(.int c0), (.int (nar .char c1))] (.int (0 : Int32)) := Arv.set Ar4 q4 Sz4 Nn4 Hh4 G4 (fits_nar_char _) W5 1 rfl (Nat.le_of_ble_eq_true rfl)
  rw [own_narc16 hc1] at V5
  refine go_of (B := (T5.setTop (mkF m 37 #[.val (.int (2 : Int32)), .val (.int c0), .val (.int c1), .val (.int c2), .val (.int c3)] [(.ref b1)]))) (st5) ?_
  refine go_end X5 (v := some (.ref b1)) (fun h => by rw [Bd.returns] at h; cases h) Bd.notSynchronized (by decide) (by decide) (Q := (Q_bu_2 Z c0 c1 c2 c3 h0 n0)) ?_ (fun fs hr => own_retA X5 hx Bd.returns rfl rfl (hb hby d1_37) hr)
  unfold Q_bu_2
  try rw [e5]
  exact ⟨b1, k1, rfl, N5, by omega, ((((Keep.refl h0 []).ext E1).wr W3 (Or.inr (by first | omega | exact own_ne (by omega) | exact own_le (by omega) | exact own_lt (by omega)))).wr W5 (Or.inr (by first | omega | exact own_ne (by omega) | exact own_le (by omega) | exact own_lt (by omega)))), V5⟩
theorem d1_38 : decode method_3_code 38 = .ok (.iload_n 0, 1) := by decide +kernel
theorem d1_39 : decode method_3_code 39 = .ok (.iconst 3, 1) := by decide +kernel
theorem d1_40 : decode method_3_code 40 = .ok (.if_icmp .ne 19, 3) := by decide +kernel
theorem d1_43 : decode method_3_code 43 = .ok (.iconst 3, 1) := by decide +kernel
theorem d1_44 : decode method_3_code 44 = .ok (.newarray .char, 2) := by decide +kernel
theorem d1_46 : decode method_3_code 46 = .ok (.dup, 1) := by decide +kernel
theorem d1_47 : decode method_3_code 47 = .ok (.iconst 0, 1) := by decide +kernel
theorem d1_48 : decode method_3_code 48 = .ok (.iload_n 1, 1) := by decide +kernel
theorem d1_49 : decode method_3_code 49 = .ok (.castore, 1) := by decide +kernel
theorem d1_50 : decode method_3_code 50 = .ok (.dup, 1) := by decide +kernel
theorem d1_51 : decode method_3_code 51 = .ok (.iconst 1, 1) := by decide +kernel
theorem d1_52 : decode method_3_code 52 = .ok (.iload_n 2, 1) := by decide +kernel
theorem d1_53 : decode method_3_code 53 = .ok (.castore, 1) := by decide +kernel
theorem d1_54 : decode method_3_code 54 = .ok (.dup, 1) := by decide +kernel
theorem d1_55 : decode method_3_code 55 = .ok (.iconst 2, 1) := by decide +kernel
theorem d1_56 : decode method_3_code 56 = .ok (.iload_n 3, 1) := by decide +kernel
theorem d1_57 : decode method_3_code 57 = .ok (.castore, 1) := by decide +kernel
theorem d1_58 : decode method_3_code 58 = .ok (.areturn, 1) := by decide +kernel
def Q_bu_3 (Z : State) (c0 : Int32) (c1 : Int32) (c2 : Int32) (c3 : Int32) (h0 : Heap) (n0 : Nat) (v : Option Value) (h : Heap) (L : List Loc) : Prop := ∃ (t : Addr) (k : ClassId), v = some (.ref t) ∧ Fr n0 L ∧ h0.size ≤ t ∧ Keep h0 h [] ∧ Arv Z h t k .char 3 [(.int c0), (.int c1), (.int c2)] (.int 0)
theorem ef_bu_3 (m : MethodId) (c0 : Int32) (c1 : Int32) (c2 : Int32) (c3 : Int32)  : entryFrame m #[(.int (3 : Int32)), (.int c0), (.int c1), (.int c2), (.int c3)] 5 = mkF m 0 #[.val (.int (3 : Int32)), .val (.int c0), .val (.int c1), .val (.int c2), .val (.int c3)] [] := by first | (simp [entryFrame, mkF, argsToLocals, Value.category]; done) | rfl
theorem bu_3 (l : Launch) (Z : State) (a0 : Array Value) (hw : TW a0 Z) (ws : List Jvm.Cond) (c0 : Int32) (c1 : Int32) (c2 : Int32) (c3 : Int32) (h0 : Heap) (n0 : Nat) (Z0 : n0 ≤ h0.size) (hc0 : ¬ c0 < 0 ∧ ¬ (65535 : Int32) < c0) (hc1 : ¬ c1 < 0 ∧ ¬ (65535 : Int32) < c1) (hc2 : ¬ c2 < 0 ∧ ¬ (65535 : Int32) < c2) (hc3 : ¬ c3 < 0 ∧ ¬ (65535 : Int32) < c3) :
    own_MF l Z MN1 method_3_code 5 (some (.array .char)) ws (own_R 0 1 3 0) #[(.int (3 : Int32)), (.int c0), (.int c1), (.int c2), (.int c3)] h0 (Q_bu_3 Z c0 c1 c2 c3 h0 n0) := by
  have wd := @own_wd _ _ hw
  refine MetFree.of_bodySF (plainFor_of_name pn_com_example_libpubid_libpubid_store_NamesIsNamePinLaw) hisR ?_
  intro p e s m args below meth c s₁ Bd hml0 hP hK
  obtain ⟨rfl, hZ, hh⟩ := hP
  have hx := Bd.exec
  have hby := Bd.bytes
  have hml : c.maxLocals = 5 := hml0
  have hown : s.vm.findClass "com/example/libpubid/libpubid/store/NamesIsNamePinLaw" = some m.cls := findClass_of_methodNamed Bd.named
  have hnm := (name_of_methodNamed Bd.named Bd.method).1
  have X0 : Stand p l e (own_R 0 1 3 0) s m #[(.int (3 : Int32)), (.int c0), (.int c1), (.int c2), (.int c3)] below meth c s₁ [] 0 0 := Stand.of_body Bd
  have e0 : s₁.heap = h0 := by rw [← hh, Bd.state]; rfl
  have N0 := Fr.nil n0
  refine go_of (A := s₁.setTop (entryFrame m #[(.int (3 : Int32)), (.int c0), (.int c1), (.int c2), (.int c3)] 5)) (B := s₁.setTop (mkF m 0 #[.val (.int (3 : Int32)), .val (.int c0), .val (.int c1), .val (.int c2), .val (.int c3)] [])) (fun _ kk' => castTop (ef_bu_3 m c0 c1 c2 c3) kk') ?_
  refine go_of (B := (s₁.setTop (mkF m 22 #[.val (.int (3 : Int32)), .val (.int c0), .val (.int c1), .val (.int c2), .val (.int c3)] [(.int (3 : Int32))]))) (fun _ kk => XS.iloadN X0.here hx rfl (hb hby d1_0) rfl (XS.ifYes X0.here hx rfl (pc0 := 1) (pc' := 8) rfl (hb hby d1_1) rfl ((if0 _ _).trans (feq (by decide : ¬ ((3 : Int32) = (0 : Int32)))).2) (by decide) (by decide) (XS.iloadN X0.here hx rfl (hb hby d1_8) rfl (XS.iconst X0.here hx rfl (hb hby d1_9) (XS.icmpYes X0.here hx rfl (pc0 := 10) (pc' := 21) rfl (hb hby d1_10) rfl (feq (by decide : ¬ ((3 : Int32) = (1 : Int32)))).2 (by decide) (by decide) (XS.iloadN X0.here hx rfl (hb hby d1_21) rfl kk)))))) ?_
  refine go_of (B := (s₁.setTop (mkF m 44 #[.val (.int (3 : Int32)), .val (.int c0), .val (.int c1), .val (.int c2), .val (.int c3)] [(.int (3 : Int32))]))) (fun _ kk => XS.iconst X0.here hx rfl (hb hby d1_22) (XS.icmpYes X0.here hx rfl (pc0 := 23) (pc' := 38) rfl (hb hby d1_23) rfl (feq (by decide : ¬ ((3 : Int32) = (2 : Int32)))).2 (by decide) (by decide) (XS.iloadN X0.here hx rfl (hb hby d1_38) rfl (XS.iconst X0.here hx rfl (hb hby d1_39) (XS.icmpNo X0.here hx rfl (hb hby d1_40) rfl (teq (by decide : (3 : Int32) = (3 : Int32))).2 (XS.iconst X0.here hx rfl (hb hby d1_43) kk)))))) ?_
  obtain ⟨T1, h1, k1, X1, e1, E1, A1, st1⟩ := newP X0 hx hZ (wd 8 rfl) e0 (g := (mkF m 44 #[.val (.int (3 : Int32)), .val (.int c0), .val (.int c1), .val (.int c2), .val (.int c3)] [(.int (3 : Int32))])) rfl (hb hby d1_44) rfl (by decide) (cap := 3) (by decide) (by decide) (by decide) (by decide)
  obtain ⟨b1, g1⟩ : ∃ z, z = h0.size := ⟨_, rfl⟩
  rw [← g1] at A1 st1
  have hi1 := own_nlt A1.lt
  have sz1 := E1.1
  have V1 : Arv Z h1 b1 k1 .char (3 : Int32) [(.int (0 : Int32)), (.int (0 : Int32)), (.int (0 : Int32))] (.int (0 : Int32)) := (Arv.new A1 (by decide)).pad (pad_rep [] (.int (0 : Int32)) 3)
  refine go_of (B := (T1.setTop (mkF m 46 #[.val (.int (3 : Int32)), .val (.int c0), .val (.int c1), .val (.int c2), .val (.int c3)] [(.ref b1)]))) (st1) ?_
  refine go_of (B := (T1.setTop (mkF m 49 #[.val (.int (3 : Int32)), .val (.int c0), .val (.int c1), .val (.int c2), .val (.int c3)] [(.int c0), (.int (0 : Int32)), (.ref b1), (.ref b1)]))) (fun _ kk => XS.dup X1.here hx rfl (hb hby d1_46) rfl rfl (XS.iconst X1.here hx rfl (hb hby d1_47) (XS.iloadN X1.here hx rfl (hb hby d1_48) rfl kk))) ?_
  obtain ⟨cl2, Ar2, q2, Sz2, Nn2, Hh2, G2⟩ := id (V1)
  obtain ⟨T3, h3, X3, e3, W3, st3⟩ := stC X1 hx hZ e1 Ar2 (j := (0 : Int32)) (inb_of Sz2 ⟨by decide, by decide⟩) (g := (mkF m 49 #[.val (.int (3 : Int32)), .val (.int c0), .val (.int c1), .val (.int c2), .val (.int c3)] [(.int c0), (.int (0 : Int32)), (.ref b1), (.ref b1)])) rfl rfl (hb hby d1_49)
  have sz3 := W3.size
  have N3 := Fr.snoc X3 N0 ((by first | omega | exact own_ne (by omega) | exact own_le (by omega) | exact own_lt (by omega)) : n0 ≤ b1)
  have V3 : Arv Z h3 b1 k1 .char (3 : Int32) [(.int (nar .char c0)), (.int (0 : Int32)), (.int (0 : Int32))] (.int (0 : Int32)) := Arv.set Ar2 q2 Sz2 Nn2 Hh2 G2 (fits_nar_char _) W3 0 rfl (Nat.le_of_ble_eq_true rfl)
  rw [own_narc16 hc0] at V3
  refine go_of (B := (T3.setTop (mkF m 50 #[.val (.int (3 : Int32)), .val (.int c0), .val (.int c1), .val (.int c2), .val (.int c3)] [(.ref b1)]))) (st3) ?_
  refine go_of (B := (T3.setTop (mkF m 53 #[.val (.int (3 : Int32)), .val (.int c0), .val (.int c1), .val (.int c2), .val (.int c3)] [(.int c1), (.int (1 : Int32)), (.ref b1), (.ref b1)]))) (fun _ kk => XS.dup X3.here hx rfl (hb hby d1_50) rfl rfl (XS.iconst X3.here hx rfl (hb hby d1_51) (XS.iloadN X3.here hx rfl (hb hby d1_52) rfl kk))) ?_
  obtain ⟨cl4, Ar4, q4, Sz4, Nn4, Hh4, G4⟩ := id (V3)
  obtain ⟨T5, h5, X5, e5, W5, st5⟩ := stC X3 hx hZ e3 Ar4 (j := (1 : Int32)) (inb_of Sz4 ⟨by decide, by decide⟩) (g := (mkF m 53 #[.val (.int (3 : Int32)), .val (.int c0), .val (.int c1), .val (.int c2), .val (.int c3)] [(.int c1), (.int (1 : Int32)), (.ref b1), (.ref b1)])) rfl rfl (hb hby d1_53)
  have sz5 := W5.size
  have N5 := Fr.snoc X5 N3 ((by first | omega | exact own_ne (by omega) | exact own_le (by omega) | exact own_lt (by omega)) : n0 ≤ b1)
  have V5 : Arv Z h5 b1 k1 .char (3 : Int32) [(.int c0), (.int (nar .char c1)), (.int (0 : Int32))] (.int (0 : Int32)) := Arv.set Ar4 q4 Sz4 Nn4 Hh4 G4 (fits_nar_char _) W5 1 rfl (Nat.le_of_ble_eq_true rfl)
  rw [own_narc16 hc1] at V5
  refine go_of (B := (T5.setTop (mkF m 54 #[.val (.int (3 : Int32)), .val (.int c0), .val (.int c1), .val (.int c2), .val (.int c3)] [(.ref b1)]))) (st5) ?_
  refine go_of (B := (T5.setTop (mkF m 57 #[.val (.int (3 : Int32)), .val (.int c0), .val (.int c1), .val (.int c2), .val (.int c3)] [(.int c2), (.int (2 : Int32)), (.ref b1), (.ref b1)]))) (fun _ kk => XS.dup X5.here hx rfl (hb hby d1_54) rfl rfl (XS.iconst X5.here hx rfl (hb hby d1_55) (XS.iloadN X5.here hx rfl (hb hby d1_56) rfl kk))) ?_
  obtain ⟨cl6, Ar6, q6, Sz6, Nn6, Hh6, G6⟩ := id (V5)
  obtain ⟨T7, h7, X7, e7, W7, st7⟩ := stC X5 hx hZ e5 Ar6 (j := (2 : Int32)) (inb_of Sz6 ⟨by decide, by decide⟩) (g := (mkF m 57 #[.val (.int (3 : Int32)), .val (.int c0), .val (.int c1), .val (.int c2), .val (.int c3)] [(.int c2), (.int (2 : Int32)), (.ref b1), (.ref b1)])) rfl rfl (hb hby d1_57)
  have sz7 := W7.size
  have N7 := Fr.snoc X7 N5 ((by first | omega | exact own_ne (by omega) | exact own_le (by omega) | exact own_lt (by omega)) : n0 ≤ b1)
  have V7 : Arv Z h7 b1 k1 .char (3 : Int32) [(.int c0), (.int c1), (.int (nar .char c2))] (.int (0 : Int32)) := Arv.set Ar6 q6 Sz6 Nn6 Hh6 G6 (fits_nar_char _) W7 2 rfl (Nat.le_of_ble_eq_true rfl)
  rw [own_narc16 hc2] at V7
  refine go_of (B := (T7.setTop (mkF m 58 #[.val (.int (3 : Int32)), .val (.int c0), .val (.int c1), .val (.int c2), .val (.int c3)] [(.ref b1)]))) (st7) ?_
  refine go_end X7 (v := some (.ref b1)) (fun h => by rw [Bd.returns] at h; cases h) Bd.notSynchronized (by decide) (by decide) (Q := (Q_bu_3 Z c0 c1 c2 c3 h0 n0)) ?_ (fun fs hr => own_retA X7 hx Bd.returns rfl rfl (hb hby d1_58) hr)
  unfold Q_bu_3
  try rw [e7]
  exact ⟨b1, k1, rfl, N7, by omega, (((((Keep.refl h0 []).ext E1).wr W3 (Or.inr (by first | omega | exact own_ne (by omega) | exact own_le (by omega) | exact own_lt (by omega)))).wr W5 (Or.inr (by first | omega | exact own_ne (by omega) | exact own_le (by omega) | exact own_lt (by omega)))).wr W7 (Or.inr (by first | omega | exact own_ne (by omega) | exact own_le (by omega) | exact own_lt (by omega)))), V7⟩
theorem d1_59 : decode method_3_code 59 = .ok (.iconst 4, 1) := by decide +kernel
theorem d1_60 : decode method_3_code 60 = .ok (.newarray .char, 2) := by decide +kernel
theorem d1_62 : decode method_3_code 62 = .ok (.dup, 1) := by decide +kernel
theorem d1_63 : decode method_3_code 63 = .ok (.iconst 0, 1) := by decide +kernel
theorem d1_64 : decode method_3_code 64 = .ok (.iload_n 1, 1) := by decide +kernel
theorem d1_65 : decode method_3_code 65 = .ok (.castore, 1) := by decide +kernel
theorem d1_66 : decode method_3_code 66 = .ok (.dup, 1) := by decide +kernel
theorem d1_67 : decode method_3_code 67 = .ok (.iconst 1, 1) := by decide +kernel
theorem d1_68 : decode method_3_code 68 = .ok (.iload_n 2, 1) := by decide +kernel
theorem d1_69 : decode method_3_code 69 = .ok (.castore, 1) := by decide +kernel
theorem d1_70 : decode method_3_code 70 = .ok (.dup, 1) := by decide +kernel
theorem d1_71 : decode method_3_code 71 = .ok (.iconst 2, 1) := by decide +kernel
theorem d1_72 : decode method_3_code 72 = .ok (.iload_n 3, 1) := by decide +kernel
theorem d1_73 : decode method_3_code 73 = .ok (.castore, 1) := by decide +kernel
theorem d1_74 : decode method_3_code 74 = .ok (.dup, 1) := by decide +kernel
theorem d1_75 : decode method_3_code 75 = .ok (.iconst 3, 1) := by decide +kernel
theorem d1_76 : decode method_3_code 76 = .ok (.iload 4, 2) := by decide +kernel
theorem d1_78 : decode method_3_code 78 = .ok (.castore, 1) := by decide +kernel
theorem d1_79 : decode method_3_code 79 = .ok (.areturn, 1) := by decide +kernel
def Q_bu_4 (Z : State) (c0 : Int32) (c1 : Int32) (c2 : Int32) (c3 : Int32) (h0 : Heap) (n0 : Nat) (v : Option Value) (h : Heap) (L : List Loc) : Prop := ∃ (t : Addr) (k : ClassId), v = some (.ref t) ∧ Fr n0 L ∧ h0.size ≤ t ∧ Keep h0 h [] ∧ Arv Z h t k .char 4 [(.int c0), (.int c1), (.int c2), (.int c3)] (.int 0)
theorem ef_bu_4 (m : MethodId) (c0 : Int32) (c1 : Int32) (c2 : Int32) (c3 : Int32)  : entryFrame m #[(.int (4 : Int32)), (.int c0), (.int c1), (.int c2), (.int c3)] 5 = mkF m 0 #[.val (.int (4 : Int32)), .val (.int c0), .val (.int c1), .val (.int c2), .val (.int c3)] [] := by first | (simp [entryFrame, mkF, argsToLocals, Value.category]; done) | rfl
theorem bu_4 (l : Launch) (Z : State) (a0 : Array Value) (hw : TW a0 Z) (ws : List Jvm.Cond) (c0 : Int32) (c1 : Int32) (c2 : Int32) (c3 : Int32) (h0 : Heap) (n0 : Nat) (Z0 : n0 ≤ h0.size) (hc0 : ¬ c0 < 0 ∧ ¬ (65535 : Int32) < c0) (hc1 : ¬ c1 < 0 ∧ ¬ (65535 : Int32) < c1) (hc2 : ¬ c2 < 0 ∧ ¬ (65535 : Int32) < c2) (hc3 : ¬ c3 < 0 ∧ ¬ (65535 : Int32) < c3) :
    own_MF l Z MN1 method_3_code 5 (some (.array .char)) ws (own_R 0 1 4 0) #[(.int (4 : Int32)), (.int c0), (.int c1), (.int c2), (.int c3)] h0 (Q_bu_4 Z c0 c1 c2 c3 h0 n0) := by
  have wd := @own_wd _ _ hw
  refine MetFree.of_bodySF (plainFor_of_name pn_com_example_libpubid_libpubid_store_NamesIsNamePinLaw) hisR ?_
  intro p e s m args below meth c s₁ Bd hml0 hP hK
  obtain ⟨rfl, hZ, hh⟩ := hP
  have hx := Bd.exec
  have hby := Bd.bytes
  have hml : c.maxLocals = 5 := hml0
  have hown : s.vm.findClass "com/example/libpubid/libpubid/store/NamesIsNamePinLaw" = some m.cls := findClass_of_methodNamed Bd.named
  have hnm := (name_of_methodNamed Bd.named Bd.method).1
  have X0 : Stand p l e (own_R 0 1 4 0) s m #[(.int (4 : Int32)), (.int c0), (.int c1), (.int c2), (.int c3)] below meth c s₁ [] 0 0 := Stand.of_body Bd
  have e0 : s₁.heap = h0 := by rw [← hh, Bd.state]; rfl
  have N0 := Fr.nil n0
  refine go_of (A := s₁.setTop (entryFrame m #[(.int (4 : Int32)), (.int c0), (.int c1), (.int c2), (.int c3)] 5)) (B := s₁.setTop (mkF m 0 #[.val (.int (4 : Int32)), .val (.int c0), .val (.int c1), .val (.int c2), .val (.int c3)] [])) (fun _ kk' => castTop (ef_bu_4 m c0 c1 c2 c3) kk') ?_
  refine go_of (B := (s₁.setTop (mkF m 22 #[.val (.int (4 : Int32)), .val (.int c0), .val (.int c1), .val (.int c2), .val (.int c3)] [(.int (4 : Int32))]))) (fun _ kk => XS.iloadN X0.here hx rfl (hb hby d1_0) rfl (XS.ifYes X0.here hx rfl (pc0 := 1) (pc' := 8) rfl (hb hby d1_1) rfl ((if0 _ _).trans (feq (by decide : ¬ ((4 : Int32) = (0 : Int32)))).2) (by decide) (by decide) (XS.iloadN X0.here hx rfl (hb hby d1_8) rfl (XS.iconst X0.here hx rfl (hb hby d1_9) (XS.icmpYes X0.here hx rfl (pc0 := 10) (pc' := 21) rfl (hb hby d1_10) rfl (feq (by decide : ¬ ((4 : Int32) = (1 : Int32)))).2 (by decide) (by decide) (XS.iloadN X0.here hx rfl (hb hby d1_21) rfl kk)))))) ?_
  refine go_of (B := (s₁.setTop (mkF m 60 #[.val (.int (4 : Int32)), .val (.int c0), .val (.int c1), .val (.int c2), .val (.int c3)] [(.int (4 : Int32))]))) (fun _ kk => XS.iconst X0.here hx rfl (hb hby d1_22) (XS.icmpYes X0.here hx rfl (pc0 := 23) (pc' := 38) rfl (hb hby d1_23) rfl (feq (by decide : ¬ ((4 : Int32) = (2 : Int32)))).2 (by decide) (by decide) (XS.iloadN X0.here hx rfl (hb hby d1_38) rfl (XS.iconst X0.here hx rfl (hb hby d1_39) (XS.icmpYes X0.here hx rfl (pc0 := 40) (pc' := 59) rfl (hb hby d1_40) rfl (feq (by decide : ¬ ((4 : Int32) = (3 : Int32)))).2 (by decide) (by decide) (XS.iconst X0.here hx rfl (hb hby d1_59) kk)))))) ?_
  obtain ⟨T1, h1, k1, X1, e1, E1, A1, st1⟩ := newP X0 hx hZ (wd 8 rfl) e0 (g := (mkF m 60 #[.val (.int (4 : Int32)), .val (.int c0), .val (.int c1), .val (.int c2), .val (.int c3)] [(.int (4 : Int32))])) rfl (hb hby d1_60) rfl (by decide) (cap := 4) (by decide) (by decide) (by decide) (by decide)
  obtain ⟨b1, g1⟩ : ∃ z, z = h0.size := ⟨_, rfl⟩
  rw [← g1] at A1 st1
  have hi1 := own_nlt A1.lt
  have sz1 := E1.1
  have V1 : Arv Z h1 b1 k1 .char (4 : Int32) [(.int (0 : Int32)), (.int (0 : Int32)), (.int (0 : Int32)), (.int (0 : Int32))] (.int (0 : Int32)) := (Arv.new A1 (by decide)).pad (pad_rep [] (.int (0 : Int32)) 4)
  refine go_of (B := (T1.setTop (mkF m 62 #[.val (.int (4 : Int32)), .val (.int c0), .val (.int c1), .val (.int c2), .val (.int c3)] [(.ref b1)]))) (st1) ?_
  refine go_of (B := (T1.setTop (mkF m 65 #[.val (.int (4 : Int32)), .val (.int c0), .val (.int c1), .val (.int c2), .val (.int c3)] [(.int c0), (.int (0 : Int32)), (.ref b1), (.ref b1)]))) (fun _ kk => XS.dup X1.here hx rfl (hb hby d1_62) rfl rfl (XS.iconst X1.here hx rfl (hb hby d1_63) (XS.iloadN X1.here hx rfl (hb hby d1_64) rfl kk))) ?_
  obtain ⟨cl2, Ar2, q2, Sz2, Nn2, Hh2, G2⟩ := id (V1)
  obtain ⟨T3, h3, X3, e3, W3, st3⟩ := stC X1 hx hZ e1 Ar2 (j := (0 : Int32)) (inb_of Sz2 ⟨by decide, by decide⟩) (g := (mkF m 65 #[.val (.int (4 : Int32)), .val (.int c0), .val (.int c1), .val (.int c2), .val (.int c3)] [(.int c0), (.int (0 : Int32)), (.ref b1), (.ref b1)])) rfl rfl (hb hby d1_65)
  have sz3 := W3.size
  have N3 := Fr.snoc X3 N0 ((by first | omega | exact own_ne (by omega) | exact own_le (by omega) | exact own_lt (by omega)) : n0 ≤ b1)
  have V3 : Arv Z h3 b1 k1 .char (4 : Int32) [(.int (nar .char c0)), (.int (0 : Int32)), (.int (0 : Int32)), (.int (0 : Int32))] (.int (0 : Int32)) := Arv.set Ar2 q2 Sz2 Nn2 Hh2 G2 (fits_nar_char _) W3 0 rfl (Nat.le_of_ble_eq_true rfl)
  rw [own_narc16 hc0] at V3
  refine go_of (B := (T3.setTop (mkF m 66 #[.val (.int (4 : Int32)), .val (.int c0), .val (.int c1), .val (.int c2), .val (.int c3)] [(.ref b1)]))) (st3) ?_
  refine go_of (B := (T3.setTop (mkF m 69 #[.val (.int (4 : Int32)), .val (.int c0), .val (.int c1), .val (.int c2), .val (.int c3)] [(.int c1), (.int (1 : Int32)), (.ref b1), (.ref b1)]))) (fun _ kk => XS.dup X3.here hx rfl (hb hby d1_66) rfl rfl (XS.iconst X3.here hx rfl (hb hby d1_67) (XS.iloadN X3.here hx rfl (hb hby d1_68) rfl kk))) ?_
  obtain ⟨cl4, Ar4, q4, Sz4, Nn4, Hh4, G4⟩ := id (V3)
  obtain ⟨T5, h5, X5, e5, W5, st5⟩ := stC X3 hx hZ e3 Ar4 (j := (1 : Int32)) (inb_of Sz4 ⟨by decide, by decide⟩) (g := (mkF m 69 #[.val (.int (4 : Int32)), .val (.int c0), .val (.int c1), .val (.int c2), .val (.int c3)] [(.int c1), (.int (1 : Int32)), (.ref b1), (.ref b1)])) rfl rfl (hb hby d1_69)
  have sz5 := W5.size
  have N5 := Fr.snoc X5 N3 ((by first | omega | exact own_ne (by omega) | exact own_le (by omega) | exact own_lt (by omega)) : n0 ≤ b1)
  have V5 : Arv Z h5 b1 k1 .char (4 : Int32) [(.int c0), (.int (nar .char c1)), (.int (0 : Int32)), (.int (0 : Int32))] (.int (0 : Int32)) := Arv.set Ar4 q4 Sz4 Nn4 Hh4 G4 (fits_nar_char _) W5 1 rfl (Nat.le_of_ble_eq_true rfl)
  rw [own_narc16 hc1] at V5
  refine go_of (B := (T5.setTop (mkF m 70 #[.val (.int (4 : Int32)), .val (.int c0), .val (.int c1), .val (.int c2), .val (.int c3)] [(.ref b1)]))) (st5) ?_
  refine go_of (B := (T5.setTop (mkF m 73 #[.val (.int (4 : Int32)), .val (.int c0), .val (.int c1), .val (.int c2), .val (.int c3)] [(.int c2), (.int (2 : Int32)), (.ref b1), (.ref b1)]))) (fun _ kk => XS.dup X5.here hx rfl (hb hby d1_70) rfl rfl (XS.iconst X5.here hx rfl (hb hby d1_71) (XS.iloadN X5.here hx rfl (hb hby d1_72) rfl kk))) ?_
  obtain ⟨cl6, Ar6, q6, Sz6, Nn6, Hh6, G6⟩ := id (V5)
  obtain ⟨T7, h7, X7, e7, W7, st7⟩ := stC X5 hx hZ e5 Ar6 (j := (2 : Int32)) (inb_of Sz6 ⟨by decide, by decide⟩) (g := (mkF m 73 #[.val (.int (4 : Int32)), .val (.int c0), .val (.int c1), .val (.int c2), .val (.int c3)] [(.int c2), (.int (2 : Int32)), (.ref b1), (.ref b1)])) rfl rfl (hb hby d1_73)
  have sz7 := W7.size
  have N7 := Fr.snoc X7 N5 ((by first | omega | exact own_ne (by omega) | exact own_le (by omega) | exact own_lt (by omega)) : n0 ≤ b1)
  have V7 : Arv Z h7 b1 k1 .char (4 : Int32) [(.int c0), (.int c1), (.int (nar .char c2)), (.int (0 : Int32))] (.int (0 : Int32)) := Arv.set Ar6 q6 Sz6 Nn6 Hh6 G6 (fits_nar_char _) W7 2 rfl (Nat.le_of_ble_eq_true rfl)
  rw [own_narc16 hc2] at V7
  refine go_of (B := (T7.setTop (mkF m 74 #[.val (.int (4 : Int32)), .val (.int c0), .val (.int c1), .val (.int c2), .val (.int c3)] [(.ref b1)]))) (st7) ?_
  refine go_of (B := (T7.setTop (mkF m 78 #[.val (.int (4 : Int32)), .val (.int c0), .val (.int c1), .val (.int c2), .val (.int c3)] [(.int c3), (.int (3 : Int32)), (.ref b1), (.ref b1)]))) (fun _ kk => XS.dup X7.here hx rfl (hb hby d1_74) rfl rfl (XS.iconst X7.here hx rfl (hb hby d1_75) (XS.iload X7.here hx rfl (hb hby d1_76) rfl kk))) ?_
  obtain ⟨cl8, Ar8, q8, Sz8, Nn8, Hh8, G8⟩ := id (V7)
  obtain ⟨T9, h9, X9, e9, W9, st9⟩ := stC X7 hx hZ e7 Ar8 (j := (3 : Int32)) (inb_of Sz8 ⟨by decide, by decide⟩) (g := (mkF m 78 #[.val (.int (4 : Int32)), .val (.int c0), .val (.int c1), .val (.int c2), .val (.int c3)] [(.int c3), (.int (3 : Int32)), (.ref b1), (.ref b1)])) rfl rfl (hb hby d1_78)
  have sz9 := W9.size
  have N9 := Fr.snoc X9 N7 ((by first | omega | exact own_ne (by omega) | exact own_le (by omega) | exact own_lt (by omega)) : n0 ≤ b1)
  have V9 : Arv Z h9 b1 k1 .char (4 : Int32) [(.int c0), (.int c1), (.int c2), (.int (nar .char c3))] (.int (0 : Int32)) := Arv.set Ar8 q8 Sz8 Nn8 Hh8 G8 (fits_nar_char _) W9 3 rfl (Nat.le_of_ble_eq_true rfl)
  rw [own_narc16 hc3] at V9
  refine go_of (B := (T9.setTop (mkF m 79 #[.val (.int (4 : Int32)), .val (.int c0), .val (.int c1), .val (.int c2), .val (.int c3)] [(.ref b1)]))) (st9) ?_
  refine go_end X9 (v := some (.ref b1)) (fun h => by rw [Bd.returns] at h; cases h) Bd.notSynchronized (by decide) (by decide) (Q := (Q_bu_4 Z c0 c1 c2 c3 h0 n0)) ?_ (fun fs hr => own_retA X9 hx Bd.returns rfl rfl (hb hby d1_79) hr)
  unfold Q_bu_4
  try rw [e9]
  exact ⟨b1, k1, rfl, N9, by omega, ((((((Keep.refl h0 []).ext E1).wr W3 (Or.inr (by first | omega | exact own_ne (by omega) | exact own_le (by omega) | exact own_lt (by omega)))).wr W5 (Or.inr (by first | omega | exact own_ne (by omega) | exact own_le (by omega) | exact own_lt (by omega)))).wr W7 (Or.inr (by first | omega | exact own_ne (by omega) | exact own_le (by omega) | exact own_lt (by omega)))).wr W9 (Or.inr (by first | omega | exact own_ne (by omega) | exact own_le (by omega) | exact own_lt (by omega)))), V9⟩
theorem d5_33 : decode prog_38_method_2_code 33 = .ok (.iload_n 3, 1) := by decide +kernel
theorem d5_34 : decode prog_38_method_2_code 34 = .ok (.bipush 65, 2) := by decide +kernel
theorem d5_36 : decode prog_38_method_2_code 36 = .ok (.if_icmp .lt 9, 3) := by decide +kernel
theorem d5_45 : decode prog_38_method_2_code 45 = .ok (.iload_n 3, 1) := by decide +kernel
theorem d5_46 : decode prog_38_method_2_code 46 = .ok (.bipush 97, 2) := by decide +kernel
theorem d5_48 : decode prog_38_method_2_code 48 = .ok (.if_icmp .lt 9, 3) := by decide +kernel
theorem d5_57 : decode prog_38_method_2_code 57 = .ok (.iload_n 3, 1) := by decide +kernel
theorem d5_58 : decode prog_38_method_2_code 58 = .ok (.bipush 48, 2) := by decide +kernel
theorem d5_60 : decode prog_38_method_2_code 60 = .ok (.if_icmp .lt 9, 3) := by decide +kernel
theorem d5_69 : decode prog_38_method_2_code 69 = .ok (.iload_n 3, 1) := by decide +kernel
theorem d5_70 : decode prog_38_method_2_code 70 = .ok (.bipush 95, 2) := by decide +kernel
theorem d5_72 : decode prog_38_method_2_code 72 = .ok (.if_icmp .eq 5, 3) := by decide +kernel
theorem d5_63 : decode prog_38_method_2_code 63 = .ok (.iload_n 3, 1) := by decide +kernel
theorem d5_64 : decode prog_38_method_2_code 64 = .ok (.bipush 57, 2) := by decide +kernel
theorem d5_66 : decode prog_38_method_2_code 66 = .ok (.if_icmp .le 11, 3) := by decide +kernel
theorem d5_51 : decode prog_38_method_2_code 51 = .ok (.iload_n 3, 1) := by decide +kernel
theorem d5_52 : decode prog_38_method_2_code 52 = .ok (.bipush 122, 2) := by decide +kernel
theorem d5_54 : decode prog_38_method_2_code 54 = .ok (.if_icmp .le 23, 3) := by decide +kernel
theorem d5_39 : decode prog_38_method_2_code 39 = .ok (.iload_n 3, 1) := by decide +kernel
theorem d5_40 : decode prog_38_method_2_code 40 = .ok (.bipush 90, 2) := by decide +kernel
theorem d5_42 : decode prog_38_method_2_code 42 = .ok (.if_icmp .le 35, 3) := by decide +kernel
theorem nam_cls {p : Program} {l : Launch} {e : Env} {R : Room} {s : State} {m : MethodId} {args : Array Value} {below : List Frame} {meth : Method} {c : Code} {T0 : State} {locs : List Loc} {cells slots : Nat} {G : Outcome → State → Prop} {a : Addr} {mx ii ch : Int32} (X0 : Stand p l e R s m args below meth c T0 locs cells slots) (hx : p.tables.exec = Jvm.exec) (hby : c.code = prog_38_method_2_code)
    (HKt : own_okB ch = true → Go p e below (T0.setTop (mkF m 77 #[.val (.ref a), .val (.int mx), .val (.int ii), .val (.int ch)] [])) G) (HKf : own_okB ch = false → Go p e below (T0.setTop (mkF m 75 #[.val (.ref a), .val (.int mx), .val (.int ii), .val (.int ch)] [])) G) : Go p e below (T0.setTop (mkF m 33 #[.val (.ref a), .val (.int mx), .val (.int ii), .val (.int ch)] [])) G := by
  refine go_of (B := (T0.setTop (mkF m 36 #[.val (.ref a), .val (.int mx), .val (.int ii), .val (.int ch)] [(.int (65 : Int32)), (.int ch)]))) (fun _ kk => XS.iloadN X0.here hx rfl (hb hby d5_33) rfl (XS.bipush X0.here hx rfl (hb hby d5_34) kk)) ?_
  by_cases hcc1 : ch < (65 : Int32)
  · refine go_of (B := (T0.setTop (mkF m 48 #[.val (.ref a), .val (.int mx), .val (.int ii), .val (.int ch)] [(.int (97 : Int32)), (.int ch)]))) (fun _ kk => XS.icmpYes X0.here hx rfl (pc0 := 36) (pc' := 45) rfl (hb hby d5_36) rfl (tlt hcc1).1 (by decide) (by decide) (XS.iloadN X0.here hx rfl (hb hby d5_45) rfl (XS.bipush X0.here hx rfl (hb hby d5_46) kk))) ?_
    by_cases hcc2 : ch < (97 : Int32)
    · refine go_of (B := (T0.setTop (mkF m 60 #[.val (.ref a), .val (.int mx), .val (.int ii), .val (.int ch)] [(.int (48 : Int32)), (.int ch)]))) (fun _ kk => XS.icmpYes X0.here hx rfl (pc0 := 48) (pc' := 57) rfl (hb hby d5_48) rfl (tlt hcc2).1 (by decide) (by decide) (XS.iloadN X0.here hx rfl (hb hby d5_57) rfl (XS.bipush X0.here hx rfl (hb hby d5_58) kk))) ?_
      by_cases hcc3 : ch < (48 : Int32)
      · refine go_of (B := (T0.setTop (mkF m 72 #[.val (.ref a), .val (.int mx), .val (.int ii), .val (.int ch)] [(.int (95 : Int32)), (.int ch)]))) (fun _ kk => XS.icmpYes X0.here hx rfl (pc0 := 60) (pc' := 69) rfl (hb hby d5_60) rfl (tlt hcc3).1 (by decide) (by decide) (XS.iloadN X0.here hx rfl (hb hby d5_69) rfl (XS.bipush X0.here hx rfl (hb hby d5_70) kk))) ?_
        by_cases hcc4 : ch = (95 : Int32)
        · refine go_of (B := (T0.setTop (mkF m 77 #[.val (.ref a), .val (.int mx), .val (.int ii), .val (.int ch)] []))) (fun _ kk => XS.icmpYes X0.here hx rfl (pc0 := 72) (pc' := 77) rfl (hb hby d5_72) rfl (teq hcc4).1 (by decide) (by decide) kk) ?_
          exact HKt (by simp only [Int32.lt_iff_toInt_lt, ← Int32.toInt_inj, own_t48, own_t57, own_t65, own_t90, own_t95, own_t97, own_t122] at hcc1 hcc2 hcc3 hcc4; simp only [own_okB, Bool.or_eq_true, Bool.and_eq_true, decide_eq_true_eq]; omega)
        · refine go_of (B := (T0.setTop (mkF m 75 #[.val (.ref a), .val (.int mx), .val (.int ii), .val (.int ch)] []))) (fun _ kk => XS.icmpNo X0.here hx rfl (hb hby d5_72) rfl (feq hcc4).1 kk) ?_
          exact HKf (by simp only [Int32.lt_iff_toInt_lt, ← Int32.toInt_inj, own_t48, own_t57, own_t65, own_t90, own_t95, own_t97, own_t122] at hcc1 hcc2 hcc3 hcc4; simp only [own_okB, Bool.or_eq_false_iff, Bool.and_eq_false_iff, decide_eq_false_iff_not]; omega)
      · refine go_of (B := (T0.setTop (mkF m 66 #[.val (.ref a), .val (.int mx), .val (.int ii), .val (.int ch)] [(.int (57 : Int32)), (.int ch)]))) (fun _ kk => XS.icmpNo X0.here hx rfl (hb hby d5_60) rfl (flt hcc3).1 (XS.iloadN X0.here hx rfl (hb hby d5_63) rfl (XS.bipush X0.here hx rfl (hb hby d5_64) kk))) ?_
        by_cases hcc5 : (57 : Int32) < ch
        · refine go_of (B := (T0.setTop (mkF m 72 #[.val (.ref a), .val (.int mx), .val (.int ii), .val (.int ch)] [(.int (95 : Int32)), (.int ch)]))) (fun _ kk => XS.icmpNo X0.here hx rfl (hb hby d5_66) rfl (tlt hcc5).2.2.2 (XS.iloadN X0.here hx rfl (hb hby d5_69) rfl (XS.bipush X0.here hx rfl (hb hby d5_70) kk))) ?_
          by_cases hcc6 : ch = (95 : Int32)
          · refine go_of (B := (T0.setTop (mkF m 77 #[.val (.ref a), .val (.int mx), .val (.int ii), .val (.int ch)] []))) (fun _ kk => XS.icmpYes X0.here hx rfl (pc0 := 72) (pc' := 77) rfl (hb hby d5_72) rfl (teq hcc6).1 (by decide) (by decide) kk) ?_
            exact HKt (by simp only [Int32.lt_iff_toInt_lt, ← Int32.toInt_inj, own_t48, own_t57, own_t65, own_t90, own_t95, own_t97, own_t122] at hcc1 hcc2 hcc3 hcc5 hcc6; simp only [own_okB, Bool.or_eq_true, Bool.and_eq_true, decide_eq_true_eq]; omega)
          · refine go_of (B := (T0.setTop (mkF m 75 #[.val (.ref a), .val (.int mx), .val (.int ii), .val (.int ch)] []))) (fun _ kk => XS.icmpNo X0.here hx rfl (hb hby d5_72) rfl (feq hcc6).1 kk) ?_
            exact HKf (by simp only [Int32.lt_iff_toInt_lt, ← Int32.toInt_inj, own_t48, own_t57, own_t65, own_t90, own_t95, own_t97, own_t122] at hcc1 hcc2 hcc3 hcc5 hcc6; simp only [own_okB, Bool.or_eq_false_iff, Bool.and_eq_false_iff, decide_eq_false_iff_not]; omega)
        · refine go_of (B := (T0.setTop (mkF m 77 #[.val (.ref a), .val (.int mx), .val (.int ii), .val (.int ch)] []))) (fun _ kk => XS.icmpYes X0.here hx rfl (pc0 := 66) (pc' := 77) rfl (hb hby d5_66) rfl (flt hcc5).2.2.2 (by decide) (by decide) kk) ?_
          exact HKt (by simp only [Int32.lt_iff_toInt_lt, ← Int32.toInt_inj, own_t48, own_t57, own_t65, own_t90, own_t95, own_t97, own_t122] at hcc1 hcc2 hcc3 hcc5; simp only [own_okB, Bool.or_eq_true, Bool.and_eq_true, decide_eq_true_eq]; omega)
    · refine go_of (B := (T0.setTop (mkF m 54 #[.val (.ref a), .val (.int mx), .val (.int ii), .val (.int ch)] [(.int (122 : Int32)), (.int ch)]))) (fun _ kk => XS.icmpNo X0.here hx rfl (hb hby d5_48) rfl (flt hcc2).1 (XS.iloadN X0.here hx rfl (hb hby d5_51) rfl (XS.bipush X0.here hx rfl (hb hby d5_52) kk))) ?_
      by_cases hcc7 : (122 : Int32) < ch
      · refine go_of (B := (T0.setTop (mkF m 60 #[.val (.ref a), .val (.int mx), .val (.int ii), .val (.int ch)] [(.int (48 : Int32)), (.int ch)]))) (fun _ kk => XS.icmpNo X0.here hx rfl (hb hby d5_54) rfl (tlt hcc7).2.2.2 (XS.iloadN X0.here hx rfl (hb hby d5_57) rfl (XS.bipush X0.here hx rfl (hb hby d5_58) kk))) ?_
        by_cases hcc8 : ch < (48 : Int32)
        · refine go_of (B := (T0.setTop (mkF m 72 #[.val (.ref a), .val (.int mx), .val (.int ii), .val (.int ch)] [(.int (95 : Int32)), (.int ch)]))) (fun _ kk => XS.icmpYes X0.here hx rfl (pc0 := 60) (pc' := 69) rfl (hb hby d5_60) rfl (tlt hcc8).1 (by decide) (by decide) (XS.iloadN X0.here hx rfl (hb hby d5_69) rfl (XS.bipush X0.here hx rfl (hb hby d5_70) kk))) ?_
          by_cases hcc9 : ch = (95 : Int32)
          · refine go_of (B := (T0.setTop (mkF m 77 #[.val (.ref a), .val (.int mx), .val (.int ii), .val (.int ch)] []))) (fun _ kk => XS.icmpYes X0.here hx rfl (pc0 := 72) (pc' := 77) rfl (hb hby d5_72) rfl (teq hcc9).1 (by decide) (by decide) kk) ?_
            exact HKt (by simp only [Int32.lt_iff_toInt_lt, ← Int32.toInt_inj, own_t48, own_t57, own_t65, own_t90, own_t95, own_t97, own_t122] at hcc1 hcc2 hcc7 hcc8 hcc9; simp only [own_okB, Bool.or_eq_true, Bool.and_eq_true, decide_eq_true_eq]; omega)
          · refine go_of (B := (T0.setTop (mkF m 75 #[.val (.ref a), .val (.int mx), .val (.int ii), .val (.int ch)] []))) (fun _ kk => XS.icmpNo X0.here hx rfl (hb hby d5_72) rfl (feq hcc9).1 kk) ?_
            exact HKf (by simp only [Int32.lt_iff_toInt_lt, ← Int32.toInt_inj, own_t48, own_t57, own_t65, own_t90, own_t95, own_t97, own_t122] at hcc1 hcc2 hcc7 hcc8 hcc9; simp only [own_okB, Bool.or_eq_false_iff, Bool.and_eq_false_iff, decide_eq_false_iff_not]; omega)
        · refine go_of (B := (T0.setTop (mkF m 66 #[.val (.ref a), .val (.int mx), .val (.int ii), .val (.int ch)] [(.int (57 : Int32)), (.int ch)]))) (fun _ kk => XS.icmpNo X0.here hx rfl (hb hby d5_60) rfl (flt hcc8).1 (XS.iloadN X0.here hx rfl (hb hby d5_63) rfl (XS.bipush X0.here hx rfl (hb hby d5_64) kk))) ?_
          by_cases hcc10 : (57 : Int32) < ch
          · refine go_of (B := (T0.setTop (mkF m 72 #[.val (.ref a), .val (.int mx), .val (.int ii), .val (.int ch)] [(.int (95 : Int32)), (.int ch)]))) (fun _ kk => XS.icmpNo X0.here hx rfl (hb hby d5_66) rfl (tlt hcc10).2.2.2 (XS.iloadN X0.here hx rfl (hb hby d5_69) rfl (XS.bipush X0.here hx rfl (hb hby d5_70) kk))) ?_
            by_cases hcc11 : ch = (95 : Int32)
            · refine go_of (B := (T0.setTop (mkF m 77 #[.val (.ref a), .val (.int mx), .val (.int ii), .val (.int ch)] []))) (fun _ kk => XS.icmpYes X0.here hx rfl (pc0 := 72) (pc' := 77) rfl (hb hby d5_72) rfl (teq hcc11).1 (by decide) (by decide) kk) ?_
              exact HKt (by simp only [Int32.lt_iff_toInt_lt, ← Int32.toInt_inj, own_t48, own_t57, own_t65, own_t90, own_t95, own_t97, own_t122] at hcc1 hcc2 hcc7 hcc8 hcc10 hcc11; simp only [own_okB, Bool.or_eq_true, Bool.and_eq_true, decide_eq_true_eq]; omega)
            · refine go_of (B := (T0.setTop (mkF m 75 #[.val (.ref a), .val (.int mx), .val (.int ii), .val (.int ch)] []))) (fun _ kk => XS.icmpNo X0.here hx rfl (hb hby d5_72) rfl (feq hcc11).1 kk) ?_
              exact HKf (by simp only [Int32.lt_iff_toInt_lt, ← Int32.toInt_inj, own_t48, own_t57, own_t65, own_t90, own_t95, own_t97, own_t122] at hcc1 hcc2 hcc7 hcc8 hcc10 hcc11; simp only [own_okB, Bool.or_eq_false_iff, Bool.and_eq_false_iff, decide_eq_false_iff_not]; omega)
          · refine go_of (B := (T0.setTop (mkF m 77 #[.val (.ref a), .val (.int mx), .val (.int ii), .val (.int ch)] []))) (fun _ kk => XS.icmpYes X0.here hx rfl (pc0 := 66) (pc' := 77) rfl (hb hby d5_66) rfl (flt hcc10).2.2.2 (by decide) (by decide) kk) ?_
            exact HKt (by simp only [Int32.lt_iff_toInt_lt, ← Int32.toInt_inj, own_t48, own_t57, own_t65, own_t90, own_t95, own_t97, own_t122] at hcc1 hcc2 hcc7 hcc8 hcc10; simp only [own_okB, Bool.or_eq_true, Bool.and_eq_true, decide_eq_true_eq]; omega)
      · refine go_of (B := (T0.setTop (mkF m 77 #[.val (.ref a), .val (.int mx), .val (.int ii), .val (.int ch)] []))) (fun _ kk => XS.icmpYes X0.here hx rfl (pc0 := 54) (pc' := 77) rfl (hb hby d5_54) rfl (flt hcc7).2.2.2 (by decide) (by decide) kk) ?_
        exact HKt (by simp only [Int32.lt_iff_toInt_lt, ← Int32.toInt_inj, own_t48, own_t57, own_t65, own_t90, own_t95, own_t97, own_t122] at hcc1 hcc2 hcc7; simp only [own_okB, Bool.or_eq_true, Bool.and_eq_true, decide_eq_true_eq]; omega)
  · refine go_of (B := (T0.setTop (mkF m 42 #[.val (.ref a), .val (.int mx), .val (.int ii), .val (.int ch)] [(.int (90 : Int32)), (.int ch)]))) (fun _ kk => XS.icmpNo X0.here hx rfl (hb hby d5_36) rfl (flt hcc1).1 (XS.iloadN X0.here hx rfl (hb hby d5_39) rfl (XS.bipush X0.here hx rfl (hb hby d5_40) kk))) ?_
    by_cases hcc12 : (90 : Int32) < ch
    · refine go_of (B := (T0.setTop (mkF m 48 #[.val (.ref a), .val (.int mx), .val (.int ii), .val (.int ch)] [(.int (97 : Int32)), (.int ch)]))) (fun _ kk => XS.icmpNo X0.here hx rfl (hb hby d5_42) rfl (tlt hcc12).2.2.2 (XS.iloadN X0.here hx rfl (hb hby d5_45) rfl (XS.bipush X0.here hx rfl (hb hby d5_46) kk))) ?_
      by_cases hcc13 : ch < (97 : Int32)
      · refine go_of (B := (T0.setTop (mkF m 60 #[.val (.ref a), .val (.int mx), .val (.int ii), .val (.int ch)] [(.int (48 : Int32)), (.int ch)]))) (fun _ kk => XS.icmpYes X0.here hx rfl (pc0 := 48) (pc' := 57) rfl (hb hby d5_48) rfl (tlt hcc13).1 (by decide) (by decide) (XS.iloadN X0.here hx rfl (hb hby d5_57) rfl (XS.bipush X0.here hx rfl (hb hby d5_58) kk))) ?_
        by_cases hcc14 : ch < (48 : Int32)
        · refine go_of (B := (T0.setTop (mkF m 72 #[.val (.ref a), .val (.int mx), .val (.int ii), .val (.int ch)] [(.int (95 : Int32)), (.int ch)]))) (fun _ kk => XS.icmpYes X0.here hx rfl (pc0 := 60) (pc' := 69) rfl (hb hby d5_60) rfl (tlt hcc14).1 (by decide) (by decide) (XS.iloadN X0.here hx rfl (hb hby d5_69) rfl (XS.bipush X0.here hx rfl (hb hby d5_70) kk))) ?_
          by_cases hcc15 : ch = (95 : Int32)
          · refine go_of (B := (T0.setTop (mkF m 77 #[.val (.ref a), .val (.int mx), .val (.int ii), .val (.int ch)] []))) (fun _ kk => XS.icmpYes X0.here hx rfl (pc0 := 72) (pc' := 77) rfl (hb hby d5_72) rfl (teq hcc15).1 (by decide) (by decide) kk) ?_
            exact HKt (by simp only [Int32.lt_iff_toInt_lt, ← Int32.toInt_inj, own_t48, own_t57, own_t65, own_t90, own_t95, own_t97, own_t122] at hcc1 hcc12 hcc13 hcc14 hcc15; simp only [own_okB, Bool.or_eq_true, Bool.and_eq_true, decide_eq_true_eq]; omega)
          · refine go_of (B := (T0.setTop (mkF m 75 #[.val (.ref a), .val (.int mx), .val (.int ii), .val (.int ch)] []))) (fun _ kk => XS.icmpNo X0.here hx rfl (hb hby d5_72) rfl (feq hcc15).1 kk) ?_
            exact HKf (by simp only [Int32.lt_iff_toInt_lt, ← Int32.toInt_inj, own_t48, own_t57, own_t65, own_t90, own_t95, own_t97, own_t122] at hcc1 hcc12 hcc13 hcc14 hcc15; simp only [own_okB, Bool.or_eq_false_iff, Bool.and_eq_false_iff, decide_eq_false_iff_not]; omega)
        · refine go_of (B := (T0.setTop (mkF m 66 #[.val (.ref a), .val (.int mx), .val (.int ii), .val (.int ch)] [(.int (57 : Int32)), (.int ch)]))) (fun _ kk => XS.icmpNo X0.here hx rfl (hb hby d5_60) rfl (flt hcc14).1 (XS.iloadN X0.here hx rfl (hb hby d5_63) rfl (XS.bipush X0.here hx rfl (hb hby d5_64) kk))) ?_
          by_cases hcc16 : (57 : Int32) < ch
          · refine go_of (B := (T0.setTop (mkF m 72 #[.val (.ref a), .val (.int mx), .val (.int ii), .val (.int ch)] [(.int (95 : Int32)), (.int ch)]))) (fun _ kk => XS.icmpNo X0.here hx rfl (hb hby d5_66) rfl (tlt hcc16).2.2.2 (XS.iloadN X0.here hx rfl (hb hby d5_69) rfl (XS.bipush X0.here hx rfl (hb hby d5_70) kk))) ?_
            by_cases hcc17 : ch = (95 : Int32)
            · refine go_of (B := (T0.setTop (mkF m 77 #[.val (.ref a), .val (.int mx), .val (.int ii), .val (.int ch)] []))) (fun _ kk => XS.icmpYes X0.here hx rfl (pc0 := 72) (pc' := 77) rfl (hb hby d5_72) rfl (teq hcc17).1 (by decide) (by decide) kk) ?_
              exact HKt (by simp only [Int32.lt_iff_toInt_lt, ← Int32.toInt_inj, own_t48, own_t57, own_t65, own_t90, own_t95, own_t97, own_t122] at hcc1 hcc12 hcc13 hcc14 hcc16 hcc17; simp only [own_okB, Bool.or_eq_true, Bool.and_eq_true, decide_eq_true_eq]; omega)
            · refine go_of (B := (T0.setTop (mkF m 75 #[.val (.ref a), .val (.int mx), .val (.int ii), .val (.int ch)] []))) (fun _ kk => XS.icmpNo X0.here hx rfl (hb hby d5_72) rfl (feq hcc17).1 kk) ?_
              exact HKf (by simp only [Int32.lt_iff_toInt_lt, ← Int32.toInt_inj, own_t48, own_t57, own_t65, own_t90, own_t95, own_t97, own_t122] at hcc1 hcc12 hcc13 hcc14 hcc16 hcc17; simp only [own_okB, Bool.or_eq_false_iff, Bool.and_eq_false_iff, decide_eq_false_iff_not]; omega)
          · refine go_of (B := (T0.setTop (mkF m 77 #[.val (.ref a), .val (.int mx), .val (.int ii), .val (.int ch)] []))) (fun _ kk => XS.icmpYes X0.here hx rfl (pc0 := 66) (pc' := 77) rfl (hb hby d5_66) rfl (flt hcc16).2.2.2 (by decide) (by decide) kk) ?_
            exact HKt (by simp only [Int32.lt_iff_toInt_lt, ← Int32.toInt_inj, own_t48, own_t57, own_t65, own_t90, own_t95, own_t97, own_t122] at hcc1 hcc12 hcc13 hcc14 hcc16; simp only [own_okB, Bool.or_eq_true, Bool.and_eq_true, decide_eq_true_eq]; omega)
      · refine go_of (B := (T0.setTop (mkF m 54 #[.val (.ref a), .val (.int mx), .val (.int ii), .val (.int ch)] [(.int (122 : Int32)), (.int ch)]))) (fun _ kk => XS.icmpNo X0.here hx rfl (hb hby d5_48) rfl (flt hcc13).1 (XS.iloadN X0.here hx rfl (hb hby d5_51) rfl (XS.bipush X0.here hx rfl (hb hby d5_52) kk))) ?_
        by_cases hcc18 : (122 : Int32) < ch
        · refine go_of (B := (T0.setTop (mkF m 60 #[.val (.ref a), .val (.int mx), .val (.int ii), .val (.int ch)] [(.int (48 : Int32)), (.int ch)]))) (fun _ kk => XS.icmpNo X0.here hx rfl (hb hby d5_54) rfl (tlt hcc18).2.2.2 (XS.iloadN X0.here hx rfl (hb hby d5_57) rfl (XS.bipush X0.here hx rfl (hb hby d5_58) kk))) ?_
          by_cases hcc19 : ch < (48 : Int32)
          · refine go_of (B := (T0.setTop (mkF m 72 #[.val (.ref a), .val (.int mx), .val (.int ii), .val (.int ch)] [(.int (95 : Int32)), (.int ch)]))) (fun _ kk => XS.icmpYes X0.here hx rfl (pc0 := 60) (pc' := 69) rfl (hb hby d5_60) rfl (tlt hcc19).1 (by decide) (by decide) (XS.iloadN X0.here hx rfl (hb hby d5_69) rfl (XS.bipush X0.here hx rfl (hb hby d5_70) kk))) ?_
            by_cases hcc20 : ch = (95 : Int32)
            · refine go_of (B := (T0.setTop (mkF m 77 #[.val (.ref a), .val (.int mx), .val (.int ii), .val (.int ch)] []))) (fun _ kk => XS.icmpYes X0.here hx rfl (pc0 := 72) (pc' := 77) rfl (hb hby d5_72) rfl (teq hcc20).1 (by decide) (by decide) kk) ?_
              exact HKt (by simp only [Int32.lt_iff_toInt_lt, ← Int32.toInt_inj, own_t48, own_t57, own_t65, own_t90, own_t95, own_t97, own_t122] at hcc1 hcc12 hcc13 hcc18 hcc19 hcc20; simp only [own_okB, Bool.or_eq_true, Bool.and_eq_true, decide_eq_true_eq]; omega)
            · refine go_of (B := (T0.setTop (mkF m 75 #[.val (.ref a), .val (.int mx), .val (.int ii), .val (.int ch)] []))) (fun _ kk => XS.icmpNo X0.here hx rfl (hb hby d5_72) rfl (feq hcc20).1 kk) ?_
              exact HKf (by simp only [Int32.lt_iff_toInt_lt, ← Int32.toInt_inj, own_t48, own_t57, own_t65, own_t90, own_t95, own_t97, own_t122] at hcc1 hcc12 hcc13 hcc18 hcc19 hcc20; simp only [own_okB, Bool.or_eq_false_iff, Bool.and_eq_false_iff, decide_eq_false_iff_not]; omega)
          · refine go_of (B := (T0.setTop (mkF m 66 #[.val (.ref a), .val (.int mx), .val (.int ii), .val (.int ch)] [(.int (57 : Int32)), (.int ch)]))) (fun _ kk => XS.icmpNo X0.here hx rfl (hb hby d5_60) rfl (flt hcc19).1 (XS.iloadN X0.here hx rfl (hb hby d5_63) rfl (XS.bipush X0.here hx rfl (hb hby d5_64) kk))) ?_
            by_cases hcc21 : (57 : Int32) < ch
            · refine go_of (B := (T0.setTop (mkF m 72 #[.val (.ref a), .val (.int mx), .val (.int ii), .val (.int ch)] [(.int (95 : Int32)), (.int ch)]))) (fun _ kk => XS.icmpNo X0.here hx rfl (hb hby d5_66) rfl (tlt hcc21).2.2.2 (XS.iloadN X0.here hx rfl (hb hby d5_69) rfl (XS.bipush X0.here hx rfl (hb hby d5_70) kk))) ?_
              by_cases hcc22 : ch = (95 : Int32)
              · refine go_of (B := (T0.setTop (mkF m 77 #[.val (.ref a), .val (.int mx), .val (.int ii), .val (.int ch)] []))) (fun _ kk => XS.icmpYes X0.here hx rfl (pc0 := 72) (pc' := 77) rfl (hb hby d5_72) rfl (teq hcc22).1 (by decide) (by decide) kk) ?_
                exact HKt (by simp only [Int32.lt_iff_toInt_lt, ← Int32.toInt_inj, own_t48, own_t57, own_t65, own_t90, own_t95, own_t97, own_t122] at hcc1 hcc12 hcc13 hcc18 hcc19 hcc21 hcc22; simp only [own_okB, Bool.or_eq_true, Bool.and_eq_true, decide_eq_true_eq]; omega)
              · refine go_of (B := (T0.setTop (mkF m 75 #[.val (.ref a), .val (.int mx), .val (.int ii), .val (.int ch)] []))) (fun _ kk => XS.icmpNo X0.here hx rfl (hb hby d5_72) rfl (feq hcc22).1 kk) ?_
                exact HKf (by simp only [Int32.lt_iff_toInt_lt, ← Int32.toInt_inj, own_t48, own_t57, own_t65, own_t90, own_t95, own_t97, own_t122] at hcc1 hcc12 hcc13 hcc18 hcc19 hcc21 hcc22; simp only [own_okB, Bool.or_eq_false_iff, Bool.and_eq_false_iff, decide_eq_false_iff_not]; omega)
            · refine go_of (B := (T0.setTop (mkF m 77 #[.val (.ref a), .val (.int mx), .val (.int ii), .val (.int ch)] []))) (fun _ kk => XS.icmpYes X0.here hx rfl (pc0 := 66) (pc' := 77) rfl (hb hby d5_66) rfl (flt hcc21).2.2.2 (by decide) (by decide) kk) ?_
              exact HKt (by simp only [Int32.lt_iff_toInt_lt, ← Int32.toInt_inj, own_t48, own_t57, own_t65, own_t90, own_t95, own_t97, own_t122] at hcc1 hcc12 hcc13 hcc18 hcc19 hcc21; simp only [own_okB, Bool.or_eq_true, Bool.and_eq_true, decide_eq_true_eq]; omega)
        · refine go_of (B := (T0.setTop (mkF m 77 #[.val (.ref a), .val (.int mx), .val (.int ii), .val (.int ch)] []))) (fun _ kk => XS.icmpYes X0.here hx rfl (pc0 := 54) (pc' := 77) rfl (hb hby d5_54) rfl (flt hcc18).2.2.2 (by decide) (by decide) kk) ?_
          exact HKt (by simp only [Int32.lt_iff_toInt_lt, ← Int32.toInt_inj, own_t48, own_t57, own_t65, own_t90, own_t95, own_t97, own_t122] at hcc1 hcc12 hcc13 hcc18; simp only [own_okB, Bool.or_eq_true, Bool.and_eq_true, decide_eq_true_eq]; omega)
    · refine go_of (B := (T0.setTop (mkF m 77 #[.val (.ref a), .val (.int mx), .val (.int ii), .val (.int ch)] []))) (fun _ kk => XS.icmpYes X0.here hx rfl (pc0 := 42) (pc' := 77) rfl (hb hby d5_42) rfl (flt hcc12).2.2.2 (by decide) (by decide) kk) ?_
      exact HKt (by simp only [Int32.lt_iff_toInt_lt, ← Int32.toInt_inj, own_t48, own_t57, own_t65, own_t90, own_t95, own_t97, own_t122] at hcc1 hcc12; simp only [own_okB, Bool.or_eq_true, Bool.and_eq_true, decide_eq_true_eq]; omega)
theorem d6_0 : decode jdk_42_method_55_code 0 = .ok (.aload_n 0, 1) := by decide +kernel
theorem d6_1 : decode jdk_42_method_55_code 1 = .ok (.getfield 9, 3) := by decide +kernel
theorem d6_4 : decode jdk_42_method_55_code 4 = .ok (.arraylength, 1) := by decide +kernel
theorem d6_5 : decode jdk_42_method_55_code 5 = .ok (.ifCond .ne 7, 3) := by decide +kernel
theorem d6_8 : decode jdk_42_method_55_code 8 = .ok (.iconst 1, 1) := by decide +kernel
theorem d6_9 : decode jdk_42_method_55_code 9 = .ok (.goto 4, 3) := by decide +kernel
theorem d6_13 : decode jdk_42_method_55_code 13 = .ok (.ireturn, 1) := by decide +kernel
def Q_u_emp0 (Z : State) (a : Addr) (gC : Int32) (h0 : Heap) (n0 : Nat) (v : Option Value) (h : Heap) (L : List Loc) : Prop := v = some (.int 1) ∧ Fr n0 L ∧ h = h0
theorem pn_java_lang_String : plainName "java/lang/String" = true := by first | (simp [plainName, overriddenIn]; done) | decide +kernel
theorem ef_u_emp0 (m : MethodId) (a : Addr)  : entryFrame m #[(.ref a)] 1 = mkF m 0 #[.val (.ref a)] [] := by first | (simp [entryFrame, mkF, argsToLocals, Value.category]; done) | rfl
theorem u_emp0 (l : Launch) (Z : State) (a0 : Array Value) (hw : TW a0 Z) (ws : List Jvm.Cond) (a : Addr) (gC : Int32) (h0 : Heap) (n0 : Nat) (Z0 : n0 ≤ h0.size) (O : Old Z n0 h0) (SC : Sta Z Z.heap "java/lang/String" "COMPACT_STRINGS" "Z" (.int gC)) (hgC : ¬ gC = (0 : Int32)) (S : Str Z h0 a 0 []) :
    own_MF l Z MN8 jdk_42_method_55_code 1 (some .boolean) ws (own_R 0 0 0 0) #[(.ref a)] h0 (Q_u_emp0 Z a gC h0 n0) := by
  have wd := @own_wd _ _ hw
  refine MetFree.of_bodySF (plainFor_of_name pn_java_lang_String) hisR ?_
  intro p e s m args below meth c s₁ Bd hml0 hP hK
  obtain ⟨rfl, hZ, hh⟩ := hP
  have hx := Bd.exec
  have hby := Bd.bytes
  have hml : c.maxLocals = 1 := hml0
  have hown : s.vm.findClass "java/lang/String" = some m.cls := findClass_of_methodNamed Bd.named
  have hnm := (name_of_methodNamed Bd.named Bd.method).1
  have X0 : Stand p l e (own_R 0 0 0 0) s m #[(.ref a)] below meth c s₁ [] 0 0 := Stand.of_body Bd
  have e0 : s₁.heap = h0 := by rw [← hh, Bd.state]; rfl
  have N0 := Fr.nil n0
  obtain ⟨t, k, Ea, Fc, Fv, Va, hcs⟩ := S
  have lta := own_nlt (Ea.lt)
  have ltt := own_nlt (Va.lt)
  refine go_of (A := s₁.setTop (entryFrame m #[(.ref a)] 1)) (B := s₁.setTop (mkF m 0 #[.val (.ref a)] [])) (fun _ kk' => castTop (ef_u_emp0 m a) kk') ?_
  refine go_of (B := (s₁.setTop (mkF m 1 #[.val (.ref a)] [(.ref a)]))) (fun _ kk => XS.aloadN X0.here hx rfl (hb hby d6_0) rfl rfl kk) ?_
  obtain ⟨T1, X1, e1, st1⟩ := getF X0 hx hZ hown (host := "") (Or.inl (wd 25 rfl)) Via.refl e0 Fv (g := (mkF m 1 #[.val (.ref a)] [(.ref a)])) rfl rfl (hb hby d6_1)
  refine go_of (B := (T1.setTop (mkF m 4 #[.val (.ref a)] [(.ref t)]))) (st1) ?_
  obtain ⟨cl2, Ar2, q2, Sz2, Nn2, Hh2, G2⟩ := id (Va)
  have ln2 := len_of Sz2 Nn2
  refine go_of (B := (T1.setTop (mkF m 5 #[.val (.ref a)] [(.int (0 : Int32))]))) (fun _ kk => X1.arraylength hx (by rw [e1]; exact Ar2.1) (State.isArrayOf_alike hZ.alike Ar2.2.1) (g := (mkF m 4 #[.val (.ref a)] [(.ref t)])) rfl rfl (hb hby d6_4) _ (by rw [ln2]; exact kk)) ?_
  refine go_of (B := (T1.setTop (mkF m 13 #[.val (.ref a)] [(.int (1 : Int32))]))) (fun _ kk => XS.ifNo X1.here hx rfl (hb hby d6_5) rfl ((if0 _ _).trans (teq (by decide : (0 : Int32) = (0 : Int32))).2) (XS.iconst X1.here hx rfl (hb hby d6_8) (XS.goto X1.here hx rfl (pc0 := 9) (pc' := 13) rfl (hb hby d6_9) (by decide) (by decide) kk))) ?_
  refine go_end X1 (v := some (.int (nar .boolean (1 : Int32)))) (fun h => by rw [Bd.returns] at h; cases h) Bd.notSynchronized (by decide) (by decide) (Q := (Q_u_emp0 Z a gC h0 n0)) ?_ (fun fs hr => retN X1 hx (t := .boolean) Bd.returns (by simp) (hb hby d6_13) hr)
  unfold Q_u_emp0
  try rw [e1]
  exact ⟨rfl, N0, rfl⟩
theorem d5_0 : decode prog_38_method_2_code 0 = .ok (.aload_n 0, 1) := by decide +kernel
theorem d5_1 : decode prog_38_method_2_code 1 = .ok (.invokevirtual 7, 3) := by decide +kernel
theorem pd___Z : parseMethodDescriptor "()Z" = some ⟨[], some .boolean⟩ := by decide +kernel
theorem d5_4 : decode prog_38_method_2_code 4 = .ok (.ifCond .ne 11, 3) := by decide +kernel
theorem d5_15 : decode prog_38_method_2_code 15 = .ok (.iconst 0, 1) := by decide +kernel
theorem d5_16 : decode prog_38_method_2_code 16 = .ok (.ireturn, 1) := by decide +kernel
def Q_nam_0 (Z : State) (a : Addr) (mx : Int32) (gC : Int32) (gF : Value) (h0 : Heap) (n0 : Nat) (v : Option Value) (h : Heap) (L : List Loc) : Prop := v = some (.int 0) ∧ Fr n0 L ∧ h = h0
theorem pn_com_example_libpubid_libpubid_store_Names : plainName "com/example/libpubid/libpubid/store/Names" = true := by first | (simp [plainName, overriddenIn]; done) | decide +kernel
theorem ef_nam_0 (m : MethodId) (a : Addr) (mx : Int32)  : entryFrame m #[(.ref a), (.int mx)] 4 = mkF m 0 #[.val (.ref a), .val (.int mx), .unset, .unset] [] := by first | (simp [entryFrame, mkF, argsToLocals, Value.category]; done) | rfl
theorem nam_0 (l : Launch) (Z : State) (a0 : Array Value) (hw : TW a0 Z) (ws : List Jvm.Cond) (a : Addr) (mx : Int32) (gC : Int32) (gF : Value) (h0 : Heap) (n0 : Nat) (Z0 : n0 ≤ h0.size) (O : Old Z n0 h0) (SC : Sta Z Z.heap "java/lang/String" "COMPACT_STRINGS" "Z" (.int gC)) (hgC : ¬ gC = (0 : Int32)) (S : Str Z h0 a 0 []) (SU : US Z) (SF : Sta Z Z.heap "jdk/internal/util/Preconditions" "SIOOBE_FORMATTER" "Ljava/util/function/BiFunction;" gF) (rgF : gF.isRef = true) :
    own_MF l Z MN0 prog_38_method_2_code 4 (some .boolean) ws (own_R 1 0 0 12) #[(.ref a), (.int mx)] h0 (Q_nam_0 Z a mx gC gF h0 n0) := by
  have wd := @own_wd _ _ hw
  refine MetFree.of_bodySF (plainFor_of_name pn_com_example_libpubid_libpubid_store_Names) hisR ?_
  intro p e s m args below meth c s₁ Bd hml0 hP hK
  obtain ⟨rfl, hZ, hh⟩ := hP
  have hx := Bd.exec
  have hby := Bd.bytes
  have hml : c.maxLocals = 4 := hml0
  have hown : s.vm.findClass "com/example/libpubid/libpubid/store/Names" = some m.cls := findClass_of_methodNamed Bd.named
  have hnm := (name_of_methodNamed Bd.named Bd.method).1
  have X0 : Stand p l e (own_R 1 0 0 12) s m #[(.ref a), (.int mx)] below meth c s₁ [] 0 0 := Stand.of_body Bd
  have e0 : s₁.heap = h0 := by rw [← hh, Bd.state]; rfl
  have N0 := Fr.nil n0
  refine go_of (A := s₁.setTop (entryFrame m #[(.ref a), (.int mx)] 4)) (B := s₁.setTop (mkF m 0 #[.val (.ref a), .val (.int mx), .unset, .unset] [])) (fun _ kk' => castTop (ef_nam_0 m a mx) kk') ?_
  refine go_of (B := (s₁.setTop (mkF m 1 #[.val (.ref a), .val (.int mx), .unset, .unset] [(.ref a)]))) (fun _ kk => XS.aloadN X0.here hx rfl (hb hby d5_0) rfl rfl kk) ?_
  obtain ⟨cq1, kq1, q1a, q1b, q1c⟩ := isOf hZ e0 S.exa
  obtain ⟨_, _, ⟨T1, L1, k1, n1⟩, -, X1, ⟨Lc1, hQ1, l1, y1, z1⟩, st1⟩ := X0.virtualBack hx (y := MN8) (z := MN8) hown (mvT hZ (wd 31 rfl)) (mvT hZ (wd 32 rfl)) (notFace_of_selects (args := #[]) (mvT hZ (wd 34 rfl))) (mvT hZ (wd 34 rfl)) (mvT hZ (wd 33 rfl)) (by decide) (backOf (W := 0) (u_emp0 l Z a0 hw [] a gC h0 n0 (by first | omega | exact own_ne (by omega) | exact own_le (by omega) | exact own_lt (by omega)) O SC hgC S) hZ (wd 35 rfl) (wd 3 rfl) (by decide) (by decide)) q1a q1c (g := (mkF m 1 #[.val (.ref a), .val (.int mx), .unset, .unset] [(.ref a)])) rfl (by rw [hml]; rfl) (Steps.refl _) (argsL := []) (rest := []) (lenOf pd___Z rfl) rfl (by show 2 * 0 + _ ≤ _; exact Nat.le_of_eq rfl) (hb hby d5_1) (fun _ _ => ⟨rfl, e0, (by decide : 0 + 0 ≤ _), (by decide : 0 + 0 ≤ _)⟩)
  dsimp only [Pt.U, Pt.locs, Pt.cells, Pt.slots] at X1 l1 y1 z1 st1 hQ1
  subst l1 y1 z1
  obtain ⟨rfl, N1q, e1⟩ := hQ1
  have N1 := Fr.app N0 N1q
  refine go_tr (B := (T1.setTop (mkF m 4 #[.val (.ref a), .val (.int mx), .unset, .unset] [(.int (1 : Int32))]))) (st1) ?_
  refine go_of (B := (T1.setTop (mkF m 16 #[.val (.ref a), .val (.int mx), .unset, .unset] [(.int (0 : Int32))]))) (fun _ kk => XS.ifYes X1.here hx rfl (pc0 := 4) (pc' := 15) rfl (hb hby d5_4) rfl ((if0 _ _).trans (feq (by decide : ¬ ((1 : Int32) = (0 : Int32)))).2) (by decide) (by decide) (XS.iconst X1.here hx rfl (hb hby d5_15) kk)) ?_
  refine go_end X1 (v := some (.int (nar .boolean (0 : Int32)))) (fun h => by rw [Bd.returns] at h; cases h) Bd.notSynchronized (by decide) (by decide) (Q := (Q_nam_0 Z a mx gC gF h0 n0)) ?_ (fun fs hr => retN X1 hx (t := .boolean) Bd.returns (by simp) (hb hby d5_16) hr)
  unfold Q_nam_0
  try rw [e1]
  exact ⟨rfl, N1, rfl⟩
theorem d6_12 : decode jdk_42_method_55_code 12 = .ok (.iconst 0, 1) := by decide +kernel
def Q_u_empl (Z : State) (a : Addr) (nn : Int32) (mm : Int32) (cs : List Int32) (gC : Int32) (h0 : Heap) (n0 : Nat) (v : Option Value) (h : Heap) (L : List Loc) : Prop := v = some (.int 0) ∧ Fr n0 L ∧ h = h0
theorem ef_u_empl (m : MethodId) (a : Addr)  : entryFrame m #[(.ref a)] 1 = mkF m 0 #[.val (.ref a)] [] := by first | (simp [entryFrame, mkF, argsToLocals, Value.category]; done) | rfl
theorem u_empl (l : Launch) (Z : State) (a0 : Array Value) (hw : TW a0 Z) (ws : List Jvm.Cond) (a : Addr) (nn : Int32) (mm : Int32) (cs : List Int32) (gC : Int32) (h0 : Heap) (n0 : Nat) (Z0 : n0 ≤ h0.size) (O : Old Z n0 h0) (SC : Sta Z Z.heap "java/lang/String" "COMPACT_STRINGS" "Z" (.int gC)) (hgC : ¬ gC = (0 : Int32)) (S : Str Z h0 a nn cs) (hz : ¬ nn = 0 ∧ ¬ mm = 0) :
    own_MF l Z MN8 jdk_42_method_55_code 1 (some .boolean) ws (own_R 0 0 0 0) #[(.ref a)] h0 (Q_u_empl Z a nn mm cs gC h0 n0) := by
  have wd := @own_wd _ _ hw
  refine MetFree.of_bodySF (plainFor_of_name pn_java_lang_String) hisR ?_
  intro p e s m args below meth c s₁ Bd hml0 hP hK
  obtain ⟨rfl, hZ, hh⟩ := hP
  have hx := Bd.exec
  have hby := Bd.bytes
  have hml : c.maxLocals = 1 := hml0
  have hown : s.vm.findClass "java/lang/String" = some m.cls := findClass_of_methodNamed Bd.named
  have hnm := (name_of_methodNamed Bd.named Bd.method).1
  have X0 : Stand p l e (own_R 0 0 0 0) s m #[(.ref a)] below meth c s₁ [] 0 0 := Stand.of_body Bd
  have e0 : s₁.heap = h0 := by rw [← hh, Bd.state]; rfl
  have N0 := Fr.nil n0
  obtain ⟨t, k, Ea, Fc, Fv, Va, hcs⟩ := id S
  have lta := own_nlt (Ea.lt)
  have ltt := own_nlt (Va.lt)
  refine go_of (A := s₁.setTop (entryFrame m #[(.ref a)] 1)) (B := s₁.setTop (mkF m 0 #[.val (.ref a)] [])) (fun _ kk' => castTop (ef_u_empl m a) kk') ?_
  refine go_of (B := (s₁.setTop (mkF m 1 #[.val (.ref a)] [(.ref a)]))) (fun _ kk => XS.aloadN X0.here hx rfl (hb hby d6_0) rfl rfl kk) ?_
  obtain ⟨T1, X1, e1, st1⟩ := getF X0 hx hZ hown (host := "") (Or.inl (wd 25 rfl)) Via.refl e0 Fv (g := (mkF m 1 #[.val (.ref a)] [(.ref a)])) rfl rfl (hb hby d6_1)
  refine go_of (B := (T1.setTop (mkF m 4 #[.val (.ref a)] [(.ref t)]))) (st1) ?_
  obtain ⟨cl2, Ar2, q2, Sz2, Nn2, Hh2, G2⟩ := id (Va)
  have ln2 := len_of Sz2 Nn2
  refine go_of (B := (T1.setTop (mkF m 5 #[.val (.ref a)] [(.int nn)]))) (fun _ kk => X1.arraylength hx (by rw [e1]; exact Ar2.1) (State.isArrayOf_alike hZ.alike Ar2.2.1) (g := (mkF m 4 #[.val (.ref a)] [(.ref t)])) rfl rfl (hb hby d6_4) _ (by rw [ln2]; exact kk)) ?_
  refine go_of (B := (T1.setTop (mkF m 13 #[.val (.ref a)] [(.int (0 : Int32))]))) (fun _ kk => XS.ifYes X1.here hx rfl (pc0 := 5) (pc' := 12) rfl (hb hby d6_5) rfl ((if0 _ _).trans (feq hz.1).2) (by decide) (by decide) (XS.iconst X1.here hx rfl (hb hby d6_12) kk)) ?_
  refine go_end X1 (v := some (.int (nar .boolean (0 : Int32)))) (fun h => by rw [Bd.returns] at h; cases h) Bd.notSynchronized (by decide) (by decide) (Q := (Q_u_empl Z a nn mm cs gC h0 n0)) ?_ (fun fs hr => retN X1 hx (t := .boolean) Bd.returns (by simp) (hb hby d6_13) hr)
  unfold Q_u_empl
  try rw [e1]
  exact ⟨rfl, N0, rfl⟩
def Q_u_empw (Z : State) (a : Addr) (nn : Int32) (mm : Int32) (cs : List Int32) (gC : Int32) (h0 : Heap) (n0 : Nat) (v : Option Value) (h : Heap) (L : List Loc) : Prop := v = some (.int 0) ∧ Fr n0 L ∧ h = h0
theorem ef_u_empw (m : MethodId) (a : Addr)  : entryFrame m #[(.ref a)] 1 = mkF m 0 #[.val (.ref a)] [] := by first | (simp [entryFrame, mkF, argsToLocals, Value.category]; done) | rfl
theorem u_empw (l : Launch) (Z : State) (a0 : Array Value) (hw : TW a0 Z) (ws : List Jvm.Cond) (a : Addr) (nn : Int32) (mm : Int32) (cs : List Int32) (gC : Int32) (h0 : Heap) (n0 : Nat) (Z0 : n0 ≤ h0.size) (O : Old Z n0 h0) (SC : Sta Z Z.heap "java/lang/String" "COMPACT_STRINGS" "Z" (.int gC)) (hgC : ¬ gC = (0 : Int32)) (S : StrW Z h0 a mm cs) (hz : ¬ nn = 0 ∧ ¬ mm = 0) :
    own_MF l Z MN8 jdk_42_method_55_code 1 (some .boolean) ws (own_R 0 0 0 0) #[(.ref a)] h0 (Q_u_empw Z a nn mm cs gC h0 n0) := by
  have wd := @own_wd _ _ hw
  refine MetFree.of_bodySF (plainFor_of_name pn_java_lang_String) hisR ?_
  intro p e s m args below meth c s₁ Bd hml0 hP hK
  obtain ⟨rfl, hZ, hh⟩ := hP
  have hx := Bd.exec
  have hby := Bd.bytes
  have hml : c.maxLocals = 1 := hml0
  have hown : s.vm.findClass "java/lang/String" = some m.cls := findClass_of_methodNamed Bd.named
  have hnm := (name_of_methodNamed Bd.named Bd.method).1
  have X0 : Stand p l e (own_R 0 0 0 0) s m #[(.ref a)] below meth c s₁ [] 0 0 := Stand.of_body Bd
  have e0 : s₁.heap = h0 := by rw [← hh, Bd.state]; rfl
  have N0 := Fr.nil n0
  obtain ⟨t, k, Ea, Fc, Fv, Va, hcs⟩ := id S
  have lta := own_nlt (Ea.lt)
  have ltt := own_nlt (Va.lt)
  refine go_of (A := s₁.setTop (entryFrame m #[(.ref a)] 1)) (B := s₁.setTop (mkF m 0 #[.val (.ref a)] [])) (fun _ kk' => castTop (ef_u_empw m a) kk') ?_
  refine go_of (B := (s₁.setTop (mkF m 1 #[.val (.ref a)] [(.ref a)]))) (fun _ kk => XS.aloadN X0.here hx rfl (hb hby d6_0) rfl rfl kk) ?_
  obtain ⟨T1, X1, e1, st1⟩ := getF X0 hx hZ hown (host := "") (Or.inl (wd 25 rfl)) Via.refl e0 Fv (g := (mkF m 1 #[.val (.ref a)] [(.ref a)])) rfl rfl (hb hby d6_1)
  refine go_of (B := (T1.setTop (mkF m 4 #[.val (.ref a)] [(.ref t)]))) (st1) ?_
  obtain ⟨cl2, Ar2, q2, Sz2, Nn2, Hh2, G2⟩ := id (Va)
  have ln2 := len_of Sz2 Nn2
  refine go_of (B := (T1.setTop (mkF m 5 #[.val (.ref a)] [(.int mm)]))) (fun _ kk => X1.arraylength hx (by rw [e1]; exact Ar2.1) (State.isArrayOf_alike hZ.alike Ar2.2.1) (g := (mkF m 4 #[.val (.ref a)] [(.ref t)])) rfl rfl (hb hby d6_4) _ (by rw [ln2]; exact kk)) ?_
  refine go_of (B := (T1.setTop (mkF m 13 #[.val (.ref a)] [(.int (0 : Int32))]))) (fun _ kk => XS.ifYes X1.here hx rfl (pc0 := 5) (pc' := 12) rfl (hb hby d6_5) rfl ((if0 _ _).trans (feq hz.2).2) (by decide) (by decide) (XS.iconst X1.here hx rfl (hb hby d6_12) kk)) ?_
  refine go_end X1 (v := some (.int (nar .boolean (0 : Int32)))) (fun h => by rw [Bd.returns] at h; cases h) Bd.notSynchronized (by decide) (by decide) (Q := (Q_u_empw Z a nn mm cs gC h0 n0)) ?_ (fun fs hr => retN X1 hx (t := .boolean) Bd.returns (by simp) (hb hby d6_13) hr)
  unfold Q_u_empw
  try rw [e1]
  exact ⟨rfl, N0, rfl⟩
theorem u_emp (l : Launch) (Z : State) (a0 : Array Value) (hw : ∀ d ∈ tables_1, d.before a0 Z = true) (ws : List Jvm.Cond) (a : Addr) (nn : Int32) (mm : Int32) (cs : List Int32) (gC : Int32) (h0 : Heap) (n0 : Nat) (Z0 : n0 ≤ h0.size) (O : Old Z n0 h0) (SC : Sta Z Z.heap "java/lang/String" "COMPACT_STRINGS" "Z" (.int gC)) (hgC : ¬ gC = (0 : Int32)) (S : StrU Z h0 a nn mm cs) (hz : ¬ nn = 0 ∧ ¬ mm = 0) :
    MetFree l MN8 (head1 (Jvm.Cond.code MN8 jdk_42_method_55_code 1 (some .boolean) :: ws) (own_R 0 0 0 0)) (fun aa' U1' => aa' = #[(.ref a)] ∧ Z.Warmed39 U1'.vm ∧ U1'.heap = h0) (fun _ _ _ _ _ => True) (fun _ U1' oo' U2' => ∃ vv' LL', oo' = .returned vv' ∧ (Q_u_empl Z a  nn mm cs gC  h0 n0) vv' U2'.heap LL' ∧ FrameEnd U1' oo' U2' LL' (own_R 0 0 0 0).cells (own_R 0 0 0 0).slots) := by
  rcases S with S | S
  · exact u_empl l Z a0 hw ws a nn mm cs gC h0 n0 Z0 O SC hgC S hz
  · exact u_empw l Z a0 hw ws a nn mm cs gC h0 n0 Z0 O SC hgC S hz
theorem d12_0 : decode jdk_42_method_152_code 0 = .ok (.getstatic 38, 3) := by decide +kernel
theorem d12_3 : decode jdk_42_method_152_code 3 = .ok (.ifCond .eq 10, 3) := by decide +kernel
theorem d12_6 : decode jdk_42_method_152_code 6 = .ok (.aload_n 0, 1) := by decide +kernel
theorem d12_7 : decode jdk_42_method_152_code 7 = .ok (.getfield 15, 3) := by decide +kernel
theorem d12_10 : decode jdk_42_method_152_code 10 = .ok (.goto 4, 3) := by decide +kernel
theorem d12_14 : decode jdk_42_method_152_code 14 = .ok (.ireturn, 1) := by decide +kernel
def Q_str_coder (Z : State) (a : Addr) (gC : Int32) (h0 : Heap) (n0 : Nat) (v : Option Value) (h : Heap) (L : List Loc) : Prop := v = some (.int 0) ∧ Fr n0 L ∧ h = h0
theorem ef_str_coder (m : MethodId) (a : Addr)  : entryFrame m #[(.ref a)] 1 = mkF m 0 #[.val (.ref a)] [] := by first | (simp [entryFrame, mkF, argsToLocals, Value.category]; done) | rfl
theorem str_coder (l : Launch) (Z : State) (a0 : Array Value) (hw : TW a0 Z) (ws : List Jvm.Cond) (a : Addr) (gC : Int32) (h0 : Heap) (n0 : Nat) (Z0 : n0 ≤ h0.size) (O : Old Z n0 h0) (SC : Sta Z Z.heap "java/lang/String" "COMPACT_STRINGS" "Z" (.int gC)) (hgC : ¬ gC = (0 : Int32)) (Fc : Fld Z h0 a "java/lang/String" "coder" "B" (.int 0)) :
    own_MF l Z MN7 jdk_42_method_152_code 1 (some .byte) ws (own_R 0 0 0 0) #[(.ref a)] h0 (Q_str_coder Z a gC h0 n0) := by
  have wd := @own_wd _ _ hw
  refine MetFree.of_bodySF (plainFor_of_name pn_java_lang_String) hisR ?_
  intro p e s m args below meth c s₁ Bd hml0 hP hK
  obtain ⟨rfl, hZ, hh⟩ := hP
  have hx := Bd.exec
  have hby := Bd.bytes
  have hml : c.maxLocals = 1 := hml0
  have hown : s.vm.findClass "java/lang/String" = some m.cls := findClass_of_methodNamed Bd.named
  have hnm := (name_of_methodNamed Bd.named Bd.method).1
  have X0 : Stand p l e (own_R 0 0 0 0) s m #[(.ref a)] below meth c s₁ [] 0 0 := Stand.of_body Bd
  have e0 : s₁.heap = h0 := by rw [← hh, Bd.state]; rfl
  have N0 := Fr.nil n0
  refine go_of (A := s₁.setTop (entryFrame m #[(.ref a)] 1)) (B := s₁.setTop (mkF m 0 #[.val (.ref a)] [])) (fun _ kk' => castTop (ef_str_coder m a) kk') ?_
  obtain ⟨T1, X1, e1, st1⟩ := getS2 X0 hx hZ hown (host := "") (Or.inl (wd 36 rfl)) Via.refl e0 (SC.ext O.2) (g := (mkF m 0 #[.val (.ref a)] [])) rfl (hb hby d12_0)
  refine go_of (B := (T1.setTop (mkF m 3 #[.val (.ref a)] [(.int gC)]))) (st1) ?_
  refine go_of (B := (T1.setTop (mkF m 7 #[.val (.ref a)] [(.ref a)]))) (fun _ kk => XS.ifNo X1.here hx rfl (hb hby d12_3) rfl ((if0 _ _).trans (feq hgC).1) (XS.aloadN X1.here hx rfl (hb hby d12_6) rfl rfl kk)) ?_
  obtain ⟨T2, X2, e2, st2⟩ := getF X1 hx hZ hown (host := "") (Or.inl (wd 26 rfl)) Via.refl e1 Fc (g := (mkF m 7 #[.val (.ref a)] [(.ref a)])) rfl rfl (hb hby d12_7)
  refine go_of (B := (T2.setTop (mkF m 10 #[.val (.ref a)] [(.int (0 : Int32))]))) (st2) ?_
  refine go_of (B := (T2.setTop (mkF m 14 #[.val (.ref a)] [(.int (0 : Int32))]))) (fun _ kk => XS.goto X2.here hx rfl (pc0 := 10) (pc' := 14) rfl (hb hby d12_10) (by decide) (by decide) kk) ?_
  refine go_end X2 (v := some (.int (nar .byte (0 : Int32)))) (fun h => by rw [Bd.returns] at h; cases h) Bd.notSynchronized (by decide) (by decide) (Q := (Q_str_coder Z a gC h0 n0)) ?_ (fun fs hr => retN X2 hx (t := .byte) Bd.returns (by simp) (hb hby d12_14) hr)
  unfold Q_str_coder
  try rw [e2]
  exact ⟨rfl, N0, rfl⟩
def Q_u_cod (Z : State) (a : Addr) (gC : Int32) (h0 : Heap) (n0 : Nat) (v : Option Value) (h : Heap) (L : List Loc) : Prop := v = some (.int 1) ∧ Fr n0 L ∧ h = h0
theorem ef_u_cod (m : MethodId) (a : Addr)  : entryFrame m #[(.ref a)] 1 = mkF m 0 #[.val (.ref a)] [] := by first | (simp [entryFrame, mkF, argsToLocals, Value.category]; done) | rfl
theorem u_cod (l : Launch) (Z : State) (a0 : Array Value) (hw : TW a0 Z) (ws : List Jvm.Cond) (a : Addr) (gC : Int32) (h0 : Heap) (n0 : Nat) (Z0 : n0 ≤ h0.size) (O : Old Z n0 h0) (SC : Sta Z Z.heap "java/lang/String" "COMPACT_STRINGS" "Z" (.int gC)) (hgC : ¬ gC = (0 : Int32)) (Fc : Fld Z h0 a "java/lang/String" "coder" "B" (.int 1)) :
    own_MF l Z MN7 jdk_42_method_152_code 1 (some .byte) ws (own_R 0 0 0 0) #[(.ref a)] h0 (Q_u_cod Z a gC h0 n0) := by
  have wd := @own_wd _ _ hw
  refine MetFree.of_bodySF (plainFor_of_name pn_java_lang_String) hisR ?_
  intro p e s m args below meth c s₁ Bd hml0 hP hK
  obtain ⟨rfl, hZ, hh⟩ := hP
  have hx := Bd.exec
  have hby := Bd.bytes
  have hml : c.maxLocals = 1 := hml0
  have hown : s.vm.findClass "java/lang/String" = some m.cls := findClass_of_methodNamed Bd.named
  have hnm := (name_of_methodNamed Bd.named Bd.method).1
  have X0 : Stand p l e (own_R 0 0 0 0) s m #[(.ref a)] below meth c s₁ [] 0 0 := Stand.of_body Bd
  have e0 : s₁.heap = h0 := by rw [← hh, Bd.state]; rfl
  have N0 := Fr.nil n0
  refine go_of (A := s₁.setTop (entryFrame m #[(.ref a)] 1)) (B := s₁.setTop (mkF m 0 #[.val (.ref a)] [])) (fun _ kk' => castTop (ef_u_cod m a) kk') ?_
  obtain ⟨T1, X1, e1, st1⟩ := getS2 X0 hx hZ hown (host := "") (Or.inl (wd 36 rfl)) Via.refl e0 (SC.ext O.2) (g := (mkF m 0 #[.val (.ref a)] [])) rfl (hb hby d12_0)
  refine go_of (B := (T1.setTop (mkF m 3 #[.val (.ref a)] [(.int gC)]))) (st1) ?_
  refine go_of (B := (T1.setTop (mkF m 7 #[.val (.ref a)] [(.ref a)]))) (fun _ kk => XS.ifNo X1.here hx rfl (hb hby d12_3) rfl ((if0 _ _).trans (feq hgC).1) (XS.aloadN X1.here hx rfl (hb hby d12_6) rfl rfl kk)) ?_
  obtain ⟨T2, X2, e2, st2⟩ := getF X1 hx hZ hown (host := "") (Or.inl (wd 26 rfl)) Via.refl e1 Fc (g := (mkF m 7 #[.val (.ref a)] [(.ref a)])) rfl rfl (hb hby d12_7)
  refine go_of (B := (T2.setTop (mkF m 10 #[.val (.ref a)] [(.int (1 : Int32))]))) (st2) ?_
  refine go_of (B := (T2.setTop (mkF m 14 #[.val (.ref a)] [(.int (1 : Int32))]))) (fun _ kk => XS.goto X2.here hx rfl (pc0 := 10) (pc' := 14) rfl (hb hby d12_10) (by decide) (by decide) kk) ?_
  refine go_end X2 (v := some (.int (nar .byte (1 : Int32)))) (fun h => by rw [Bd.returns] at h; cases h) Bd.notSynchronized (by decide) (by decide) (Q := (Q_u_cod Z a gC h0 n0)) ?_ (fun fs hr => retN X2 hx (t := .byte) Bd.returns (by simp) (hb hby d12_14) hr)
  unfold Q_u_cod
  try rw [e2]
  exact ⟨rfl, N0, rfl⟩
theorem d11_0 : decode jdk_42_method_54_code 0 = .ok (.aload_n 0, 1) := by decide +kernel
theorem d11_1 : decode jdk_42_method_54_code 1 = .ok (.getfield 9, 3) := by decide +kernel
theorem d11_4 : decode jdk_42_method_54_code 4 = .ok (.arraylength, 1) := by decide +kernel
theorem d11_5 : decode jdk_42_method_54_code 5 = .ok (.aload_n 0, 1) := by decide +kernel
theorem d11_6 : decode jdk_42_method_54_code 6 = .ok (.invokevirtual 335, 3) := by decide +kernel
theorem pd___B : parseMethodDescriptor "()B" = some ⟨[], some .byte⟩ := by decide +kernel
theorem d11_9 : decode jdk_42_method_54_code 9 = .ok (.ishr, 1) := by decide +kernel
theorem d11_10 : decode jdk_42_method_54_code 10 = .ok (.ireturn, 1) := by decide +kernel
def Q_u_lenl (Z : State) (a : Addr) (nn : Int32) (mm : Int32) (cs : List Int32) (gC : Int32) (h0 : Heap) (n0 : Nat) (v : Option Value) (h : Heap) (L : List Loc) : Prop := v = some (.int nn) ∧ Fr n0 L ∧ h = h0
theorem ef_u_lenl (m : MethodId) (a : Addr)  : entryFrame m #[(.ref a)] 1 = mkF m 0 #[.val (.ref a)] [] := by first | (simp [entryFrame, mkF, argsToLocals, Value.category]; done) | rfl
theorem u_lenl (l : Launch) (Z : State) (a0 : Array Value) (hw : TW a0 Z) (ws : List Jvm.Cond) (a : Addr) (nn : Int32) (mm : Int32) (cs : List Int32) (gC : Int32) (h0 : Heap) (n0 : Nat) (Z0 : n0 ≤ h0.size) (O : Old Z n0 h0) (SC : Sta Z Z.heap "java/lang/String" "COMPACT_STRINGS" "Z" (.int gC)) (hgC : ¬ gC = (0 : Int32)) (S : Str Z h0 a nn cs) (hsh : mm >>> ((1 : Int32) &&& 31) = nn) :
    own_MF l Z MN10 jdk_42_method_54_code 1 (some .int) ws (own_R 1 0 0 13) #[(.ref a)] h0 (Q_u_lenl Z a nn mm cs gC h0 n0) := by
  have wd := @own_wd _ _ hw
  refine MetFree.of_bodySF (plainFor_of_name pn_java_lang_String) hisR ?_
  intro p e s m args below meth c s₁ Bd hml0 hP hK
  obtain ⟨rfl, hZ, hh⟩ := hP
  have hx := Bd.exec
  have hby := Bd.bytes
  have hml : c.maxLocals = 1 := hml0
  have hown : s.vm.findClass "java/lang/String" = some m.cls := findClass_of_methodNamed Bd.named
  have hnm := (name_of_methodNamed Bd.named Bd.method).1
  have X0 : Stand p l e (own_R 1 0 0 13) s m #[(.ref a)] below meth c s₁ [] 0 0 := Stand.of_body Bd
  have e0 : s₁.heap = h0 := by rw [← hh, Bd.state]; rfl
  have N0 := Fr.nil n0
  obtain ⟨t, k, Ea, Fc, Fv, Va, hcs⟩ := id S
  have lta := own_nlt (Ea.lt)
  have ltt := own_nlt (Va.lt)
  refine go_of (A := s₁.setTop (entryFrame m #[(.ref a)] 1)) (B := s₁.setTop (mkF m 0 #[.val (.ref a)] [])) (fun _ kk' => castTop (ef_u_lenl m a) kk') ?_
  refine go_of (B := (s₁.setTop (mkF m 1 #[.val (.ref a)] [(.ref a)]))) (fun _ kk => XS.aloadN X0.here hx rfl (hb hby d11_0) rfl rfl kk) ?_
  obtain ⟨T1, X1, e1, st1⟩ := getF X0 hx hZ hown (host := "") (Or.inl (wd 25 rfl)) Via.refl e0 Fv (g := (mkF m 1 #[.val (.ref a)] [(.ref a)])) rfl rfl (hb hby d11_1)
  refine go_of (B := (T1.setTop (mkF m 4 #[.val (.ref a)] [(.ref t)]))) (st1) ?_
  obtain ⟨cl2, Ar2, q2, Sz2, Nn2, Hh2, G2⟩ := id (Va)
  have ln2 := len_of Sz2 Nn2
  refine go_of (B := (T1.setTop (mkF m 5 #[.val (.ref a)] [(.int nn)]))) (fun _ kk => X1.arraylength hx (by rw [e1]; exact Ar2.1) (State.isArrayOf_alike hZ.alike Ar2.2.1) (g := (mkF m 4 #[.val (.ref a)] [(.ref t)])) rfl rfl (hb hby d11_4) _ (by rw [ln2]; exact kk)) ?_
  refine go_of (B := (T1.setTop (mkF m 6 #[.val (.ref a)] [(.ref a), (.int nn)]))) (fun _ kk => XS.aloadN X1.here hx rfl (hb hby d11_5) rfl rfl kk) ?_
  obtain ⟨cq3, kq3, q3a, q3b, q3c⟩ := isOf hZ e1 Ea
  obtain ⟨_, _, ⟨T3, L3, k3, n3⟩, -, X3, ⟨Lc3, hQ3, l3, y3, z3⟩, st3⟩ := X1.virtualBack hx (y := MN7) (z := MN7) hown (mvT hZ (wd 55 rfl)) (mvT hZ (wd 56 rfl)) (notFace_of_selects (args := #[]) (mvT hZ (wd 58 rfl))) (mvT hZ (wd 58 rfl)) (mvT hZ (wd 57 rfl)) (by decide) (backOf (W := 1) (str_coder l Z a0 hw [] a gC h0 n0 Z0 O SC hgC Fc) hZ (wd 59 rfl) (wd 3 rfl) (by decide) (by decide)) q3a q3c (g := (mkF m 6 #[.val (.ref a)] [(.ref a), (.int nn)])) rfl (by rw [hml]; rfl) (Steps.refl _) (argsL := []) (rest := [(.int nn)]) (lenOf pd___B rfl) rfl (by show 2 * 0 + _ ≤ _; exact Nat.le_of_eq rfl) (hb hby d11_6) (fun _ _ => ⟨rfl, e1, (by decide : 0 + 0 ≤ _), (by decide : 0 + 0 ≤ _)⟩)
  dsimp only [Pt.U, Pt.locs, Pt.cells, Pt.slots] at X3 l3 y3 z3 st3 hQ3
  subst l3 y3 z3
  obtain ⟨rfl, N3q, e3⟩ := hQ3
  have N3 := Fr.app N0 N3q
  refine go_tr (B := (T3.setTop (mkF m 9 #[.val (.ref a)] [(.int (0 : Int32)), (.int nn)]))) (st3) ?_
  refine go_of (B := (T3.setTop (mkF m 10 #[.val (.ref a)] [(.int (nn >>> ((0 : Int32) &&& 31)))]))) (fun _ kk => XS.ishr X3.here hx rfl (hb hby d11_9) rfl kk) ?_
  refine go_end X3 (v := some (.int (nn >>> ((0 : Int32) &&& 31)))) (fun h => by rw [Bd.returns] at h; cases h) Bd.notSynchronized (by decide) (by decide) (Q := (Q_u_lenl Z a nn mm cs gC h0 n0)) ?_ (fun fs hr => own_retI X3 hx Bd.returns (hb hby d11_10) hr)
  unfold Q_u_lenl
  try rw [e3]
  refine ⟨?_, N3, rfl⟩
  rw [own_shr0]
def Q_u_lenw (Z : State) (a : Addr) (nn : Int32) (mm : Int32) (cs : List Int32) (gC : Int32) (h0 : Heap) (n0 : Nat) (v : Option Value) (h : Heap) (L : List Loc) : Prop := v = some (.int nn) ∧ Fr n0 L ∧ h = h0
theorem ef_u_lenw (m : MethodId) (a : Addr)  : entryFrame m #[(.ref a)] 1 = mkF m 0 #[.val (.ref a)] [] := by first | (simp [entryFrame, mkF, argsToLocals, Value.category]; done) | rfl
theorem u_lenw (l : Launch) (Z : State) (a0 : Array Value) (hw : TW a0 Z) (ws : List Jvm.Cond) (a : Addr) (nn : Int32) (mm : Int32) (cs : List Int32) (gC : Int32) (h0 : Heap) (n0 : Nat) (Z0 : n0 ≤ h0.size) (O : Old Z n0 h0) (SC : Sta Z Z.heap "java/lang/String" "COMPACT_STRINGS" "Z" (.int gC)) (hgC : ¬ gC = (0 : Int32)) (S : StrW Z h0 a mm cs) (hsh : mm >>> ((1 : Int32) &&& 31) = nn) :
    own_MF l Z MN10 jdk_42_method_54_code 1 (some .int) ws (own_R 1 0 0 13) #[(.ref a)] h0 (Q_u_lenw Z a nn mm cs gC h0 n0) := by
  have wd := @own_wd _ _ hw
  refine MetFree.of_bodySF (plainFor_of_name pn_java_lang_String) hisR ?_
  intro p e s m args below meth c s₁ Bd hml0 hP hK
  obtain ⟨rfl, hZ, hh⟩ := hP
  have hx := Bd.exec
  have hby := Bd.bytes
  have hml : c.maxLocals = 1 := hml0
  have hown : s.vm.findClass "java/lang/String" = some m.cls := findClass_of_methodNamed Bd.named
  have hnm := (name_of_methodNamed Bd.named Bd.method).1
  have X0 : Stand p l e (own_R 1 0 0 13) s m #[(.ref a)] below meth c s₁ [] 0 0 := Stand.of_body Bd
  have e0 : s₁.heap = h0 := by rw [← hh, Bd.state]; rfl
  have N0 := Fr.nil n0
  obtain ⟨t, k, Ea, Fc, Fv, Va, hcs⟩ := id S
  have lta := own_nlt (Ea.lt)
  have ltt := own_nlt (Va.lt)
  refine go_of (A := s₁.setTop (entryFrame m #[(.ref a)] 1)) (B := s₁.setTop (mkF m 0 #[.val (.ref a)] [])) (fun _ kk' => castTop (ef_u_lenw m a) kk') ?_
  refine go_of (B := (s₁.setTop (mkF m 1 #[.val (.ref a)] [(.ref a)]))) (fun _ kk => XS.aloadN X0.here hx rfl (hb hby d11_0) rfl rfl kk) ?_
  obtain ⟨T1, X1, e1, st1⟩ := getF X0 hx hZ hown (host := "") (Or.inl (wd 25 rfl)) Via.refl e0 Fv (g := (mkF m 1 #[.val (.ref a)] [(.ref a)])) rfl rfl (hb hby d11_1)
  refine go_of (B := (T1.setTop (mkF m 4 #[.val (.ref a)] [(.ref t)]))) (st1) ?_
  obtain ⟨cl2, Ar2, q2, Sz2, Nn2, Hh2, G2⟩ := id (Va)
  have ln2 := len_of Sz2 Nn2
  refine go_of (B := (T1.setTop (mkF m 5 #[.val (.ref a)] [(.int mm)]))) (fun _ kk => X1.arraylength hx (by rw [e1]; exact Ar2.1) (State.isArrayOf_alike hZ.alike Ar2.2.1) (g := (mkF m 4 #[.val (.ref a)] [(.ref t)])) rfl rfl (hb hby d11_4) _ (by rw [ln2]; exact kk)) ?_
  refine go_of (B := (T1.setTop (mkF m 6 #[.val (.ref a)] [(.ref a), (.int mm)]))) (fun _ kk => XS.aloadN X1.here hx rfl (hb hby d11_5) rfl rfl kk) ?_
  obtain ⟨cq3, kq3, q3a, q3b, q3c⟩ := isOf hZ e1 Ea
  obtain ⟨_, _, ⟨T3, L3, k3, n3⟩, -, X3, ⟨Lc3, hQ3, l3, y3, z3⟩, st3⟩ := X1.virtualBack hx (y := MN7) (z := MN7) hown (mvT hZ (wd 55 rfl)) (mvT hZ (wd 56 rfl)) (notFace_of_selects (args := #[]) (mvT hZ (wd 58 rfl))) (mvT hZ (wd 58 rfl)) (mvT hZ (wd 57 rfl)) (by decide) (backOf (W := 1) (u_cod l Z a0 hw [] a gC h0 n0 Z0 O SC hgC Fc) hZ (wd 59 rfl) (wd 3 rfl) (by decide) (by decide)) q3a q3c (g := (mkF m 6 #[.val (.ref a)] [(.ref a), (.int mm)])) rfl (by rw [hml]; rfl) (Steps.refl _) (argsL := []) (rest := [(.int mm)]) (lenOf pd___B rfl) rfl (by show 2 * 0 + _ ≤ _; exact Nat.le_of_eq rfl) (hb hby d11_6) (fun _ _ => ⟨rfl, e1, (by decide : 0 + 0 ≤ _), (by decide : 0 + 0 ≤ _)⟩)
  dsimp only [Pt.U, Pt.locs, Pt.cells, Pt.slots] at X3 l3 y3 z3 st3 hQ3
  subst l3 y3 z3
  obtain ⟨rfl, N3q, e3⟩ := hQ3
  have N3 := Fr.app N0 N3q
  refine go_tr (B := (T3.setTop (mkF m 9 #[.val (.ref a)] [(.int (1 : Int32)), (.int mm)]))) (st3) ?_
  refine go_of (B := (T3.setTop (mkF m 10 #[.val (.ref a)] [(.int (mm >>> ((1 : Int32) &&& 31)))]))) (fun _ kk => XS.ishr X3.here hx rfl (hb hby d11_9) rfl kk) ?_
  refine go_end X3 (v := some (.int (mm >>> ((1 : Int32) &&& 31)))) (fun h => by rw [Bd.returns] at h; cases h) Bd.notSynchronized (by decide) (by decide) (Q := (Q_u_lenw Z a nn mm cs gC h0 n0)) ?_ (fun fs hr => own_retI X3 hx Bd.returns (hb hby d11_10) hr)
  unfold Q_u_lenw
  try rw [e3]
  refine ⟨?_, N3, rfl⟩
  rw [hsh]
theorem u_len (l : Launch) (Z : State) (a0 : Array Value) (hw : ∀ d ∈ tables_1, d.before a0 Z = true) (ws : List Jvm.Cond) (a : Addr) (nn : Int32) (mm : Int32) (cs : List Int32) (gC : Int32) (h0 : Heap) (n0 : Nat) (Z0 : n0 ≤ h0.size) (O : Old Z n0 h0) (SC : Sta Z Z.heap "java/lang/String" "COMPACT_STRINGS" "Z" (.int gC)) (hgC : ¬ gC = (0 : Int32)) (S : StrU Z h0 a nn mm cs) (hsh : mm >>> ((1 : Int32) &&& 31) = nn) :
    MetFree l MN10 (head1 (Jvm.Cond.code MN10 jdk_42_method_54_code 1 (some .int) :: ws) (own_R 1 0 0 13)) (fun aa' U1' => aa' = #[(.ref a)] ∧ Z.Warmed39 U1'.vm ∧ U1'.heap = h0) (fun _ _ _ _ _ => True) (fun _ U1' oo' U2' => ∃ vv' LL', oo' = .returned vv' ∧ (Q_u_lenl Z a  nn mm cs gC  h0 n0) vv' U2'.heap LL' ∧ FrameEnd U1' oo' U2' LL' (own_R 1 0 0 13).cells (own_R 1 0 0 13).slots) := by
  rcases S with S | S
  · exact u_lenl l Z a0 hw ws a nn mm cs gC h0 n0 Z0 O SC hgC S hsh
  · exact u_lenw l Z a0 hw ws a nn mm cs gC h0 n0 Z0 O SC hgC S hsh
theorem d14_0 : decode jdk_42_method_154_code 0 = .ok (.getstatic 38, 3) := by decide +kernel
theorem d14_3 : decode jdk_42_method_154_code 3 = .ok (.ifCond .eq 14, 3) := by decide +kernel
theorem d14_6 : decode jdk_42_method_154_code 6 = .ok (.aload_n 0, 1) := by decide +kernel
theorem d14_7 : decode jdk_42_method_154_code 7 = .ok (.getfield 15, 3) := by decide +kernel
theorem d14_10 : decode jdk_42_method_154_code 10 = .ok (.ifCond .ne 7, 3) := by decide +kernel
theorem d14_13 : decode jdk_42_method_154_code 13 = .ok (.iconst 1, 1) := by decide +kernel
theorem d14_14 : decode jdk_42_method_154_code 14 = .ok (.goto 4, 3) := by decide +kernel
theorem d14_18 : decode jdk_42_method_154_code 18 = .ok (.ireturn, 1) := by decide +kernel
def Q_str_latin (Z : State) (a : Addr) (gC : Int32) (h0 : Heap) (n0 : Nat) (v : Option Value) (h : Heap) (L : List Loc) : Prop := v = some (.int 1) ∧ Fr n0 L ∧ h = h0
theorem ef_str_latin (m : MethodId) (a : Addr)  : entryFrame m #[(.ref a)] 1 = mkF m 0 #[.val (.ref a)] [] := by first | (simp [entryFrame, mkF, argsToLocals, Value.category]; done) | rfl
theorem str_latin (l : Launch) (Z : State) (a0 : Array Value) (hw : TW a0 Z) (ws : List Jvm.Cond) (a : Addr) (gC : Int32) (h0 : Heap) (n0 : Nat) (Z0 : n0 ≤ h0.size) (O : Old Z n0 h0) (SC : Sta Z Z.heap "java/lang/String" "COMPACT_STRINGS" "Z" (.int gC)) (hgC : ¬ gC = (0 : Int32)) (Fc : Fld Z h0 a "java/lang/String" "coder" "B" (.int 0)) :
    own_MF l Z MN9 jdk_42_method_154_code 1 (some .boolean) ws (own_R 0 0 0 0) #[(.ref a)] h0 (Q_str_latin Z a gC h0 n0) := by
  have wd := @own_wd _ _ hw
  refine MetFree.of_bodySF (plainFor_of_name pn_java_lang_String) hisR ?_
  intro p e s m args below meth c s₁ Bd hml0 hP hK
  obtain ⟨rfl, hZ, hh⟩ := hP
  have hx := Bd.exec
  have hby := Bd.bytes
  have hml : c.maxLocals = 1 := hml0
  have hown : s.vm.findClass "java/lang/String" = some m.cls := findClass_of_methodNamed Bd.named
  have hnm := (name_of_methodNamed Bd.named Bd.method).1
  have X0 : Stand p l e (own_R 0 0 0 0) s m #[(.ref a)] below meth c s₁ [] 0 0 := Stand.of_body Bd
  have e0 : s₁.heap = h0 := by rw [← hh, Bd.state]; rfl
  have N0 := Fr.nil n0
  refine go_of (A := s₁.setTop (entryFrame m #[(.ref a)] 1)) (B := s₁.setTop (mkF m 0 #[.val (.ref a)] [])) (fun _ kk' => castTop (ef_str_latin m a) kk') ?_
  obtain ⟨T1, X1, e1, st1⟩ := getS2 X0 hx hZ hown (host := "") (Or.inl (wd 36 rfl)) Via.refl e0 (SC.ext O.2) (g := (mkF m 0 #[.val (.ref a)] [])) rfl (hb hby d14_0)
  refine go_of (B := (T1.setTop (mkF m 3 #[.val (.ref a)] [(.int gC)]))) (st1) ?_
  refine go_of (B := (T1.setTop (mkF m 7 #[.val (.ref a)] [(.ref a)]))) (fun _ kk => XS.ifNo X1.here hx rfl (hb hby d14_3) rfl ((if0 _ _).trans (feq hgC).1) (XS.aloadN X1.here hx rfl (hb hby d14_6) rfl rfl kk)) ?_
  obtain ⟨T2, X2, e2, st2⟩ := getF X1 hx hZ hown (host := "") (Or.inl (wd 26 rfl)) Via.refl e1 Fc (g := (mkF m 7 #[.val (.ref a)] [(.ref a)])) rfl rfl (hb hby d14_7)
  refine go_of (B := (T2.setTop (mkF m 10 #[.val (.ref a)] [(.int (0 : Int32))]))) (st2) ?_
  refine go_of (B := (T2.setTop (mkF m 18 #[.val (.ref a)] [(.int (1 : Int32))]))) (fun _ kk => XS.ifNo X2.here hx rfl (hb hby d14_10) rfl ((if0 _ _).trans (teq (by decide : (0 : Int32) = (0 : Int32))).2) (XS.iconst X2.here hx rfl (hb hby d14_13) (XS.goto X2.here hx rfl (pc0 := 14) (pc' := 18) rfl (hb hby d14_14) (by decide) (by decide) kk))) ?_
  refine go_end X2 (v := some (.int (nar .boolean (1 : Int32)))) (fun h => by rw [Bd.returns] at h; cases h) Bd.notSynchronized (by decide) (by decide) (Q := (Q_str_latin Z a gC h0 n0)) ?_ (fun fs hr => retN X2 hx (t := .boolean) Bd.returns (by simp) (hb hby d14_18) hr)
  unfold Q_str_latin
  try rw [e2]
  exact ⟨rfl, N0, rfl⟩
theorem d14_17 : decode jdk_42_method_154_code 17 = .ok (.iconst 0, 1) := by decide +kernel
def Q_u_lat (Z : State) (a : Addr) (gC : Int32) (h0 : Heap) (n0 : Nat) (v : Option Value) (h : Heap) (L : List Loc) : Prop := v = some (.int 0) ∧ Fr n0 L ∧ h = h0
theorem ef_u_lat (m : MethodId) (a : Addr)  : entryFrame m #[(.ref a)] 1 = mkF m 0 #[.val (.ref a)] [] := by first | (simp [entryFrame, mkF, argsToLocals, Value.category]; done) | rfl
theorem u_lat (l : Launch) (Z : State) (a0 : Array Value) (hw : TW a0 Z) (ws : List Jvm.Cond) (a : Addr) (gC : Int32) (h0 : Heap) (n0 : Nat) (Z0 : n0 ≤ h0.size) (O : Old Z n0 h0) (SC : Sta Z Z.heap "java/lang/String" "COMPACT_STRINGS" "Z" (.int gC)) (hgC : ¬ gC = (0 : Int32)) (Fc : Fld Z h0 a "java/lang/String" "coder" "B" (.int 1)) :
    own_MF l Z MN9 jdk_42_method_154_code 1 (some .boolean) ws (own_R 0 0 0 0) #[(.ref a)] h0 (Q_u_lat Z a gC h0 n0) := by
  have wd := @own_wd _ _ hw
  refine MetFree.of_bodySF (plainFor_of_name pn_java_lang_String) hisR ?_
  intro p e s m args below meth c s₁ Bd hml0 hP hK
  obtain ⟨rfl, hZ, hh⟩ := hP
  have hx := Bd.exec
  have hby := Bd.bytes
  have hml : c.maxLocals = 1 := hml0
  have hown : s.vm.findClass "java/lang/String" = some m.cls := findClass_of_methodNamed Bd.named
  have hnm := (name_of_methodNamed Bd.named Bd.method).1
  have X0 : Stand p l e (own_R 0 0 0 0) s m #[(.ref a)] below meth c s₁ [] 0 0 := Stand.of_body Bd
  have e0 : s₁.heap = h0 := by rw [← hh, Bd.state]; rfl
  have N0 := Fr.nil n0
  refine go_of (A := s₁.setTop (entryFrame m #[(.ref a)] 1)) (B := s₁.setTop (mkF m 0 #[.val (.ref a)] [])) (fun _ kk' => castTop (ef_u_lat m a) kk') ?_
  obtain ⟨T1, X1, e1, st1⟩ := getS2 X0 hx hZ hown (host := "") (Or.inl (wd 36 rfl)) Via.refl e0 (SC.ext O.2) (g := (mkF m 0 #[.val (.ref a)] [])) rfl (hb hby d14_0)
  refine go_of (B := (T1.setTop (mkF m 3 #[.val (.ref a)] [(.int gC)]))) (st1) ?_
  refine go_of (B := (T1.setTop (mkF m 7 #[.val (.ref a)] [(.ref a)]))) (fun _ kk => XS.ifNo X1.here hx rfl (hb hby d14_3) rfl ((if0 _ _).trans (feq hgC).1) (XS.aloadN X1.here hx rfl (hb hby d14_6) rfl rfl kk)) ?_
  obtain ⟨T2, X2, e2, st2⟩ := getF X1 hx hZ hown (host := "") (Or.inl (wd 26 rfl)) Via.refl e1 Fc (g := (mkF m 7 #[.val (.ref a)] [(.ref a)])) rfl rfl (hb hby d14_7)
  refine go_of (B := (T2.setTop (mkF m 10 #[.val (.ref a)] [(.int (1 : Int32))]))) (st2) ?_
  refine go_of (B := (T2.setTop (mkF m 18 #[.val (.ref a)] [(.int (0 : Int32))]))) (fun _ kk => XS.ifYes X2.here hx rfl (pc0 := 10) (pc' := 17) rfl (hb hby d14_10) rfl ((if0 _ _).trans (feq (by decide : ¬ ((1 : Int32) = (0 : Int32)))).2) (by decide) (by decide) (XS.iconst X2.here hx rfl (hb hby d14_17) kk)) ?_
  refine go_end X2 (v := some (.int (nar .boolean (0 : Int32)))) (fun h => by rw [Bd.returns] at h; cases h) Bd.notSynchronized (by decide) (by decide) (Q := (Q_u_lat Z a gC h0 n0)) ?_ (fun fs hr => retN X2 hx (t := .boolean) Bd.returns (by simp) (hb hby d14_18) hr)
  unfold Q_u_lat
  try rw [e2]
  exact ⟨rfl, N0, rfl⟩
theorem d25_0 : decode jdk_52_method_6_code 0 = .ok (.aload_n 0, 1) := by decide +kernel
theorem d25_1 : decode jdk_52_method_6_code 1 = .ok (.arraylength, 1) := by decide +kernel
theorem d25_2 : decode jdk_52_method_6_code 2 = .ok (.iconst 1, 1) := by decide +kernel
theorem d25_3 : decode jdk_52_method_6_code 3 = .ok (.ishr, 1) := by decide +kernel
theorem d25_4 : decode jdk_52_method_6_code 4 = .ok (.ireturn, 1) := by decide +kernel
def Q_u_ul (Z : State) (t : Addr) (nn : Int32) (mm : Int32) (k : ClassId) (vs : List Value) (h0 : Heap) (n0 : Nat) (v : Option Value) (h : Heap) (L : List Loc) : Prop := v = some (.int nn) ∧ Fr n0 L ∧ h = h0
theorem pn_java_lang_StringUTF16 : plainName "java/lang/StringUTF16" = true := by first | (simp [plainName, overriddenIn]; done) | decide +kernel
theorem ef_u_ul (m : MethodId) (t : Addr)  : entryFrame m #[(.ref t)] 1 = mkF m 0 #[.val (.ref t)] [] := by first | (simp [entryFrame, mkF, argsToLocals, Value.category]; done) | rfl
theorem u_ul (l : Launch) (Z : State) (a0 : Array Value) (hw : TW a0 Z) (ws : List Jvm.Cond) (t : Addr) (nn : Int32) (mm : Int32) (k : ClassId) (vs : List Value) (h0 : Heap) (n0 : Nat) (Z0 : n0 ≤ h0.size) (V : Arv Z h0 t k .byte mm vs (.int 0)) (hsh : mm >>> ((1 : Int32) &&& 31) = nn) :
    own_MF l Z (⟨"java/lang/StringUTF16", "length", "([B)I"⟩ : MethodName) jdk_52_method_6_code 1 (some .int) ws (own_R 0 0 0 0) #[(.ref t)] h0 (Q_u_ul Z t nn mm k vs h0 n0) := by
  have wd := @own_wd _ _ hw
  refine MetFree.of_bodySF (plainFor_of_name pn_java_lang_StringUTF16) hisR ?_
  intro p e s m args below meth c s₁ Bd hml0 hP hK
  obtain ⟨rfl, hZ, hh⟩ := hP
  have hx := Bd.exec
  have hby := Bd.bytes
  have hml : c.maxLocals = 1 := hml0
  have hown : s.vm.findClass "java/lang/StringUTF16" = some m.cls := findClass_of_methodNamed Bd.named
  have hnm := (name_of_methodNamed Bd.named Bd.method).1
  have X0 : Stand p l e (own_R 0 0 0 0) s m #[(.ref t)] below meth c s₁ [] 0 0 := Stand.of_body Bd
  have e0 : s₁.heap = h0 := by rw [← hh, Bd.state]; rfl
  have N0 := Fr.nil n0
  refine go_of (A := s₁.setTop (entryFrame m #[(.ref t)] 1)) (B := s₁.setTop (mkF m 0 #[.val (.ref t)] [])) (fun _ kk' => castTop (ef_u_ul m t) kk') ?_
  refine go_of (B := (s₁.setTop (mkF m 1 #[.val (.ref t)] [(.ref t)]))) (fun _ kk => XS.aloadN X0.here hx rfl (hb hby d25_0) rfl rfl kk) ?_
  obtain ⟨cl1, Ar1, q1, Sz1, Nn1, Hh1, G1⟩ := id (V)
  have ln1 := len_of Sz1 Nn1
  refine go_of (B := (s₁.setTop (mkF m 2 #[.val (.ref t)] [(.int mm)]))) (fun _ kk => X0.arraylength hx (by rw [e0]; exact Ar1.1) (State.isArrayOf_alike hZ.alike Ar1.2.1) (g := (mkF m 1 #[.val (.ref t)] [(.ref t)])) rfl rfl (hb hby d25_1) _ (by rw [ln1]; exact kk)) ?_
  refine go_of (B := (s₁.setTop (mkF m 4 #[.val (.ref t)] [(.int (mm >>> ((1 : Int32) &&& 31)))]))) (fun _ kk => XS.iconst X0.here hx rfl (hb hby d25_2) (XS.ishr X0.here hx rfl (hb hby d25_3) rfl kk)) ?_
  refine go_end X0 (v := some (.int (mm >>> ((1 : Int32) &&& 31)))) (fun h => by rw [Bd.returns] at h; cases h) Bd.notSynchronized (by decide) (by decide) (Q := (Q_u_ul Z t nn mm k vs h0 n0)) ?_ (fun fs hr => own_retI X0 hx Bd.returns (hb hby d25_4) hr)
  unfold Q_u_ul
  try rw [e0]
  refine ⟨?_, N0, rfl⟩
  rw [hsh]
theorem d17_0 : decode jdk_41_method_11_code 0 = .ok (.iload_n 0, 1) := by decide +kernel
theorem d17_1 : decode jdk_41_method_11_code 1 = .ok (.ifCond .lt 8, 3) := by decide +kernel
theorem d17_4 : decode jdk_41_method_11_code 4 = .ok (.iload_n 0, 1) := by decide +kernel
theorem d17_5 : decode jdk_41_method_11_code 5 = .ok (.iload_n 1, 1) := by decide +kernel
theorem d17_6 : decode jdk_41_method_11_code 6 = .ok (.if_icmp .lt 10, 3) := by decide +kernel
theorem d17_16 : decode jdk_41_method_11_code 16 = .ok (.iload_n 0, 1) := by decide +kernel
theorem d17_17 : decode jdk_41_method_11_code 17 = .ok (.ireturn, 1) := by decide +kernel
def Q_u_pre (Z : State) (ii : Int32) (nn : Int32) (gF : Value) (h0 : Heap) (n0 : Nat) (v : Option Value) (h : Heap) (L : List Loc) : Prop := v = some (.int ii) ∧ Fr n0 L ∧ h = h0
theorem pn_jdk_internal_util_Preconditions : plainName "jdk/internal/util/Preconditions" = true := by first | (simp [plainName, overriddenIn]; done) | decide +kernel
theorem ef_u_pre (m : MethodId) (ii : Int32) (nn : Int32) (gF : Value) (rgF : gF.isRef = true) : entryFrame m #[(.int ii), (.int nn), gF] 3 = mkF m 0 #[.val (.int ii), .val (.int nn), .val gF] [] := by rcases ref_cases rgF with rfl | ⟨_, rfl⟩ <;> first | (simp [entryFrame, mkF, argsToLocals, Value.category]; done) | rfl
theorem u_pre (l : Launch) (Z : State) (a0 : Array Value) (hw : TW a0 Z) (ws : List Jvm.Cond) (ii : Int32) (nn : Int32) (gF : Value) (h0 : Heap) (n0 : Nat) (Z0 : n0 ≤ h0.size) (rgF : gF.isRef = true) (bi : ¬ ii < 0 ∧ ii < nn) :
    own_MF l Z (⟨"jdk/internal/util/Preconditions", "checkIndex", "(IILjava/util/function/BiFunction;)I"⟩ : MethodName) jdk_41_method_11_code 3 (some .int) ws (own_R 0 0 0 0) #[(.int ii), (.int nn), gF] h0 (Q_u_pre Z ii nn gF h0 n0) := by
  have wd := @own_wd _ _ hw
  refine MetFree.of_bodySF (plainFor_of_name pn_jdk_internal_util_Preconditions) hisR ?_
  intro p e s m args below meth c s₁ Bd hml0 hP hK
  obtain ⟨rfl, hZ, hh⟩ := hP
  have hx := Bd.exec
  have hby := Bd.bytes
  have hml : c.maxLocals = 3 := hml0
  have hown : s.vm.findClass "jdk/internal/util/Preconditions" = some m.cls := findClass_of_methodNamed Bd.named
  have hnm := (name_of_methodNamed Bd.named Bd.method).1
  have X0 : Stand p l e (own_R 0 0 0 0) s m #[(.int ii), (.int nn), gF] below meth c s₁ [] 0 0 := Stand.of_body Bd
  have e0 : s₁.heap = h0 := by rw [← hh, Bd.state]; rfl
  have N0 := Fr.nil n0
  refine go_of (A := s₁.setTop (entryFrame m #[(.int ii), (.int nn), gF] 3)) (B := s₁.setTop (mkF m 0 #[.val (.int ii), .val (.int nn), .val gF] [])) (fun _ kk' => castTop (ef_u_pre m ii nn gF rgF) kk') ?_
  refine go_of (B := (s₁.setTop (mkF m 17 #[.val (.int ii), .val (.int nn), .val gF] [(.int ii)]))) (fun _ kk => XS.iloadN X0.here hx rfl (hb hby d17_0) rfl (XS.ifNo X0.here hx rfl (hb hby d17_1) rfl ((if0 _ _).trans (flt bi.1).1) (XS.iloadN X0.here hx rfl (hb hby d17_4) rfl (XS.iloadN X0.here hx rfl (hb hby d17_5) rfl (XS.icmpYes X0.here hx rfl (pc0 := 6) (pc' := 16) rfl (hb hby d17_6) rfl (tlt bi.2).1 (by decide) (by decide) (XS.iloadN X0.here hx rfl (hb hby d17_16) rfl kk)))))) ?_
  refine go_end X0 (v := some (.int ii)) (fun h => by rw [Bd.returns] at h; cases h) Bd.notSynchronized (by decide) (by decide) (Q := (Q_u_pre Z ii nn gF h0 n0)) ?_ (fun fs hr => own_retI X0 hx Bd.returns (hb hby d17_17) hr)
  unfold Q_u_pre
  try rw [e0]
  exact ⟨rfl, N0, rfl⟩
theorem d16_0 : decode jdk_42_method_155_code 0 = .ok (.iload_n 0, 1) := by decide +kernel
theorem d16_1 : decode jdk_42_method_155_code 1 = .ok (.iload_n 1, 1) := by decide +kernel
theorem d16_2 : decode jdk_42_method_155_code 2 = .ok (.getstatic 1053, 3) := by decide +kernel
theorem d16_5 : decode jdk_42_method_155_code 5 = .ok (.invokestatic 1059, 3) := by decide +kernel
theorem pd__IILjava_util_function_BiFunction__I : parseMethodDescriptor "(IILjava/util/function/BiFunction;)I" = some ⟨[.int, .int, (.object "java/util/function/BiFunction")], some .int⟩ := by decide +kernel
theorem d16_8 : decode jdk_42_method_155_code 8 = .ok (.pop, 1) := by decide +kernel
theorem d16_9 : decode jdk_42_method_155_code 9 = .ok (.return_, 1) := by decide +kernel
def Q_u_chk (Z : State) (ii : Int32) (nn : Int32) (gF : Value) (h0 : Heap) (n0 : Nat) (v : Option Value) (h : Heap) (L : List Loc) : Prop := v = none ∧ Fr n0 L ∧ h = h0
theorem ef_u_chk (m : MethodId) (ii : Int32) (nn : Int32)  : entryFrame m #[(.int ii), (.int nn)] 2 = mkF m 0 #[.val (.int ii), .val (.int nn)] [] := by first | (simp [entryFrame, mkF, argsToLocals, Value.category]; done) | rfl
theorem u_chk (l : Launch) (Z : State) (a0 : Array Value) (hw : TW a0 Z) (ws : List Jvm.Cond) (ii : Int32) (nn : Int32) (gF : Value) (h0 : Heap) (n0 : Nat) (Z0 : n0 ≤ h0.size) (O : Old Z n0 h0) (SF : Sta Z Z.heap "jdk/internal/util/Preconditions" "SIOOBE_FORMATTER" "Ljava/util/function/BiFunction;" gF) (rgF : gF.isRef = true) (bi : ¬ ii < 0 ∧ ii < nn) :
    own_MF l Z MN6 jdk_42_method_155_code 2 none ws (own_R 1 0 0 14) #[(.int ii), (.int nn)] h0 (Q_u_chk Z ii nn gF h0 n0) := by
  have wd := @own_wd _ _ hw
  refine MetFree.of_bodySF (plainFor_of_name pn_java_lang_String) hisR ?_
  intro p e s m args below meth c s₁ Bd hml0 hP hK
  obtain ⟨rfl, hZ, hh⟩ := hP
  have hx := Bd.exec
  have hby := Bd.bytes
  have hml : c.maxLocals = 2 := hml0
  have hown : s.vm.findClass "java/lang/String" = some m.cls := findClass_of_methodNamed Bd.named
  have hnm := (name_of_methodNamed Bd.named Bd.method).1
  have X0 : Stand p l e (own_R 1 0 0 14) s m #[(.int ii), (.int nn)] below meth c s₁ [] 0 0 := Stand.of_body Bd
  have e0 : s₁.heap = h0 := by rw [← hh, Bd.state]; rfl
  have N0 := Fr.nil n0
  refine go_of (A := s₁.setTop (entryFrame m #[(.int ii), (.int nn)] 2)) (B := s₁.setTop (mkF m 0 #[.val (.int ii), .val (.int nn)] [])) (fun _ kk' => castTop (ef_u_chk m ii nn) kk') ?_
  refine go_of (B := (s₁.setTop (mkF m 2 #[.val (.int ii), .val (.int nn)] [(.int nn), (.int ii)]))) (fun _ kk => XS.iloadN X0.here hx rfl (hb hby d16_0) rfl (XS.iloadN X0.here hx rfl (hb hby d16_1) rfl kk)) ?_
  obtain ⟨T1, X1, e1, st1⟩ := getS2 X0 hx hZ hown (host := "") (Or.inl (wd 77 rfl)) Via.refl e0 (SF.ext O.2) (g := (mkF m 2 #[.val (.int ii), .val (.int nn)] [(.int nn), (.int ii)])) rfl (hb hby d16_2)
  refine go_of (B := (T1.setTop (mkF m 5 #[.val (.int ii), .val (.int nn)] [gF, (.int nn), (.int ii)]))) (st1) ?_
  obtain ⟨_, _, ⟨T2, L2, k2, n2⟩, -, X2, ⟨Lc2, hQ2, l2, y2, z2⟩, st2⟩ := Jvm.LawKit.callS X1 hx (y := (⟨"jdk/internal/util/Preconditions", "checkIndex", "(IILjava/util/function/BiFunction;)I"⟩ : MethodName)) hown (mvT hZ (wd 79 rfl)) (mvT hZ (wd 80 rfl)) (mvT hZ (wd 78 rfl)) (mvT hZ (wd 81 rfl)) (by decide) (backOf (W := 0) (u_pre l Z a0 hw [] ii nn gF h0 n0 (by first | omega | exact own_ne (by omega) | exact own_le (by omega) | exact own_lt (by omega)) rgF bi) hZ (wd 81 rfl) (wd 78 rfl) (by decide) (by decide)) (g := (mkF m 5 #[.val (.int ii), .val (.int nn)] [gF, (.int nn), (.int ii)])) rfl (by rw [hml]; rfl) (argsL := [(.int ii), (.int nn), gF]) (rest := []) (lenOf pd__IILjava_util_function_BiFunction__I rfl) rfl (by show 2 * 0 + _ ≤ _; exact Nat.le_of_eq rfl) (hb hby d16_5) (fun _ _ => ⟨rfl, e1, (by decide : 0 + 0 ≤ _), (by decide : 0 + 0 ≤ _)⟩)
  dsimp only [Pt.U, Pt.locs, Pt.cells, Pt.slots] at X2 l2 y2 z2 st2 hQ2
  subst l2 y2 z2
  obtain ⟨rfl, N2q, e2⟩ := hQ2
  have N2 := Fr.app N0 N2q
  refine go_of (B := (T2.setTop (mkF m 8 #[.val (.int ii), .val (.int nn)] [(.int ii)]))) (st2) ?_
  refine go_of (B := (T2.setTop (mkF m 9 #[.val (.int ii), .val (.int nn)] []))) (fun _ kk => XS.pop X2.here hx rfl (hb hby d16_8) rfl rfl kk) ?_
  refine go_end X2 (v := none) (fun _ => rfl) Bd.notSynchronized (by decide) (by decide) (Q := (Q_u_chk Z ii nn gF h0 n0)) ?_ (fun fs hr => X2.returnOut hx Bd.returns (hb hby d16_9) hr)
  unfold Q_u_chk
  try rw [e2]
  exact ⟨rfl, N2, rfl⟩
theorem d22_0 : decode jdk_52_method_5_code 0 = .ok (.getstatic 44, 3) := by decide +kernel
theorem d22_3 : decode jdk_52_method_5_code 3 = .ok (.ifCond .ne 25, 3) := by decide +kernel
theorem d22_28 : decode jdk_52_method_5_code 28 = .ok (.iload_n 1, 1) := by decide +kernel
theorem d22_29 : decode jdk_52_method_5_code 29 = .ok (.iconst 1, 1) := by decide +kernel
theorem d22_30 : decode jdk_52_method_5_code 30 = .ok (.ishl, 1) := by decide +kernel
theorem d22_31 : decode jdk_52_method_5_code 31 = .ok (.istore_n 1, 1) := by decide +kernel
theorem d22_32 : decode jdk_52_method_5_code 32 = .ok (.aload_n 0, 1) := by decide +kernel
theorem d22_33 : decode jdk_52_method_5_code 33 = .ok (.iload_n 1, 1) := by decide +kernel
theorem d22_34 : decode jdk_52_method_5_code 34 = .ok (.iinc 1 1, 3) := by decide +kernel
theorem d22_37 : decode jdk_52_method_5_code 37 = .ok (.baload, 1) := by decide +kernel
theorem d22_38 : decode jdk_52_method_5_code 38 = .ok (.sipush 255, 3) := by decide +kernel
theorem d22_41 : decode jdk_52_method_5_code 41 = .ok (.iand, 1) := by decide +kernel
theorem d22_42 : decode jdk_52_method_5_code 42 = .ok (.getstatic 59, 3) := by decide +kernel
theorem d22_45 : decode jdk_52_method_5_code 45 = .ok (.ishl, 1) := by decide +kernel
theorem d22_46 : decode jdk_52_method_5_code 46 = .ok (.aload_n 0, 1) := by decide +kernel
theorem d22_47 : decode jdk_52_method_5_code 47 = .ok (.iload_n 1, 1) := by decide +kernel
theorem d22_48 : decode jdk_52_method_5_code 48 = .ok (.baload, 1) := by decide +kernel
theorem d22_49 : decode jdk_52_method_5_code 49 = .ok (.sipush 255, 3) := by decide +kernel
theorem d22_52 : decode jdk_52_method_5_code 52 = .ok (.iand, 1) := by decide +kernel
theorem d22_53 : decode jdk_52_method_5_code 53 = .ok (.getstatic 63, 3) := by decide +kernel
theorem d22_56 : decode jdk_52_method_5_code 56 = .ok (.ishl, 1) := by decide +kernel
theorem d22_57 : decode jdk_52_method_5_code 57 = .ok (.ior, 1) := by decide +kernel
theorem d22_58 : decode jdk_52_method_5_code 58 = .ok (.i2c, 1) := by decide +kernel
theorem d22_59 : decode jdk_52_method_5_code 59 = .ok (.ireturn, 1) := by decide +kernel
def Q_u_get (Z : State) (t : Addr) (ii : Int32) (mm : Int32) (vs : List Value) (ch : Int32) (k : ClassId) (h0 : Heap) (n0 : Nat) (v : Option Value) (h : Heap) (L : List Loc) : Prop := v = some (.int ch) ∧ Fr n0 L ∧ h = h0
theorem ef_u_get (m : MethodId) (t : Addr) (ii : Int32)  : entryFrame m #[(.ref t), (.int ii)] 2 = mkF m 0 #[.val (.ref t), .val (.int ii)] [] := by first | (simp [entryFrame, mkF, argsToLocals, Value.category]; done) | rfl
theorem u_get (l : Launch) (Z : State) (a0 : Array Value) (hw : TW a0 Z) (ws : List Jvm.Cond) (t : Addr) (ii : Int32) (mm : Int32) (vs : List Value) (ch : Int32) (k : ClassId) (h0 : Heap) (n0 : Nat) (Z0 : n0 ≤ h0.size) (O : Old Z n0 h0) (SU : US Z) (V : Arv Z h0 t k .byte mm vs (.int 0)) (b0 : ¬ (ii <<< ((1 : Int32) &&& 31)) < 0 ∧ (ii <<< ((1 : Int32) &&& 31)) < mm) (b1 : ¬ ((ii <<< ((1 : Int32) &&& 31)) + (1 : Int32)) < 0 ∧ ((ii <<< ((1 : Int32) &&& 31)) + (1 : Int32)) < mm) (v0 : vs.getD (ii <<< ((1 : Int32) &&& 31)).toNatClampNeg (.int 0) = .int (own_b0 ch)) (v1 : vs.getD ((ii <<< ((1 : Int32) &&& 31)) + (1 : Int32)).toNatClampNeg (.int 0) = .int (own_b1 ch)) (hc : ¬ ch < 0 ∧ ¬ (65535 : Int32) < ch) :
    own_MF l Z MN14 jdk_52_method_5_code 2 (some .char) ws (own_R 0 0 0 0) #[(.ref t), (.int ii)] h0 (Q_u_get Z t ii mm vs ch k h0 n0) := by
  have wd := @own_wd _ _ hw
  refine MetFree.of_bodySF (plainFor_of_name pn_java_lang_StringUTF16) hisR ?_
  intro p e s m args below meth c s₁ Bd hml0 hP hK
  obtain ⟨rfl, hZ, hh⟩ := hP
  have hx := Bd.exec
  have hby := Bd.bytes
  have hml : c.maxLocals = 2 := hml0
  have hown : s.vm.findClass "java/lang/StringUTF16" = some m.cls := findClass_of_methodNamed Bd.named
  have hnm := (name_of_methodNamed Bd.named Bd.method).1
  have X0 : Stand p l e (own_R 0 0 0 0) s m #[(.ref t), (.int ii)] below meth c s₁ [] 0 0 := Stand.of_body Bd
  have e0 : s₁.heap = h0 := by rw [← hh, Bd.state]; rfl
  have N0 := Fr.nil n0
  refine go_of (A := s₁.setTop (entryFrame m #[(.ref t), (.int ii)] 2)) (B := s₁.setTop (mkF m 0 #[.val (.ref t), .val (.int ii)] [])) (fun _ kk' => castTop (ef_u_get m t ii) kk') ?_
  obtain ⟨T1, X1, e1, st1⟩ := getS2 X0 hx hZ hown (host := "") (Or.inl (wd 95 rfl)) Via.refl e0 (SU.1.ext O.2) (g := (mkF m 0 #[.val (.ref t), .val (.int ii)] [])) rfl (hb hby d22_0)
  refine go_of (B := (T1.setTop (mkF m 3 #[.val (.ref t), .val (.int ii)] [(.int (1 : Int32))]))) (st1) ?_
  refine go_of (B := (T1.setTop (mkF m 33 #[.val (.ref t), .val (.int (ii <<< ((1 : Int32) &&& 31)))] [(.ref t)]))) (fun _ kk => XS.ifYes X1.here hx rfl (pc0 := 3) (pc' := 28) rfl (hb hby d22_3) rfl ((if0 _ _).trans (feq (by decide : ¬ ((1 : Int32) = (0 : Int32)))).2) (by decide) (by decide) (XS.iloadN X1.here hx rfl (hb hby d22_28) rfl (XS.iconst X1.here hx rfl (hb hby d22_29) (XS.ishl X1.here hx rfl (hb hby d22_30) rfl (XS.istoreN X1.here hx rfl (hb hby d22_31) rfl rfl (XS.aloadN X1.here hx rfl (hb hby d22_32) rfl rfl kk)))))) ?_
  refine go_of (B := (T1.setTop (mkF m 37 #[.val (.ref t), .val (.int ((ii <<< ((1 : Int32) &&& 31)) + (1 : Int32)))] [(.int (ii <<< ((1 : Int32) &&& 31))), (.ref t)]))) (fun _ kk => XS.iloadN X1.here hx rfl (hb hby d22_33) rfl (XS.iinc X1.here hx rfl (hb hby d22_34) rfl rfl kk)) ?_
  obtain ⟨cl2, Ar2, q2, Sz2, Nn2, Hh2, G2⟩ := id (V)
  refine go_of (B := (T1.setTop (mkF m 42 #[.val (.ref t), .val (.int ((ii <<< ((1 : Int32) &&& 31)) + (1 : Int32)))] [(.int ((own_b0 ch) &&& (255 : Int32)))]))) (fun _ kk => X1.baloadBytes hx (j := (ii <<< ((1 : Int32) &&& 31))) (v := (.int (own_b0 ch))) (by rw [e1]; exact Ar2.1) (State.isArrayOf_alike hZ.alike Ar2.2.1) Ar2.2.2 (inb_of Sz2 b0) (Hh2.at (inb_of Sz2 b0) v0) (g := (mkF m 37 #[.val (.ref t), .val (.int ((ii <<< ((1 : Int32) &&& 31)) + (1 : Int32)))] [(.int (ii <<< ((1 : Int32) &&& 31))), (.ref t)])) rfl rfl (hb hby d22_37) _ (XS.sipush X1.here hx rfl (hb hby d22_38) (XS.iand X1.here hx rfl (hb hby d22_41) rfl kk))) ?_
  obtain ⟨T3, X3, e3, st3⟩ := getS2 X1 hx hZ hown (host := "") (Or.inl (wd 96 rfl)) Via.refl e1 (SU.2.1.ext O.2) (g := (mkF m 42 #[.val (.ref t), .val (.int ((ii <<< ((1 : Int32) &&& 31)) + (1 : Int32)))] [(.int ((own_b0 ch) &&& (255 : Int32)))])) rfl (hb hby d22_42)
  refine go_of (B := (T3.setTop (mkF m 45 #[.val (.ref t), .val (.int ((ii <<< ((1 : Int32) &&& 31)) + (1 : Int32)))] [(.int (0 : Int32)), (.int ((own_b0 ch) &&& (255 : Int32)))]))) (st3) ?_
  refine go_of (B := (T3.setTop (mkF m 48 #[.val (.ref t), .val (.int ((ii <<< ((1 : Int32) &&& 31)) + (1 : Int32)))] [(.int ((ii <<< ((1 : Int32) &&& 31)) + (1 : Int32))), (.ref t), (.int (((own_b0 ch) &&& (255 : Int32)) <<< ((0 : Int32) &&& 31)))]))) (fun _ kk => XS.ishl X3.here hx rfl (hb hby d22_45) rfl (XS.aloadN X3.here hx rfl (hb hby d22_46) rfl rfl (XS.iloadN X3.here hx rfl (hb hby d22_47) rfl kk))) ?_
  obtain ⟨cl4, Ar4, q4, Sz4, Nn4, Hh4, G4⟩ := id (V)
  refine go_of (B := (T3.setTop (mkF m 53 #[.val (.ref t), .val (.int ((ii <<< ((1 : Int32) &&& 31)) + (1 : Int32)))] [(.int ((own_b1 ch) &&& (255 : Int32))), (.int (((own_b0 ch) &&& (255 : Int32)) <<< ((0 : Int32) &&& 31)))]))) (fun _ kk => X3.baloadBytes hx (j := ((ii <<< ((1 : Int32) &&& 31)) + (1 : Int32))) (v := (.int (own_b1 ch))) (by rw [e3]; exact Ar4.1) (State.isArrayOf_alike hZ.alike Ar4.2.1) Ar4.2.2 (inb_of Sz4 b1) (Hh4.at (inb_of Sz4 b1) v1) (g := (mkF m 48 #[.val (.ref t), .val (.int ((ii <<< ((1 : Int32) &&& 31)) + (1 : Int32)))] [(.int ((ii <<< ((1 : Int32) &&& 31)) + (1 : Int32))), (.ref t), (.int (((own_b0 ch) &&& (255 : Int32)) <<< ((0 : Int32) &&& 31)))])) rfl rfl (hb hby d22_48) _ (XS.sipush X3.here hx rfl (hb hby d22_49) (XS.iand X3.here hx rfl (hb hby d22_52) rfl kk))) ?_
  obtain ⟨T5, X5, e5, st5⟩ := getS2 X3 hx hZ hown (host := "") (Or.inl (wd 97 rfl)) Via.refl e3 (SU.2.2.ext O.2) (g := (mkF m 53 #[.val (.ref t), .val (.int ((ii <<< ((1 : Int32) &&& 31)) + (1 : Int32)))] [(.int ((own_b1 ch) &&& (255 : Int32))), (.int (((own_b0 ch) &&& (255 : Int32)) <<< ((0 : Int32) &&& 31)))])) rfl (hb hby d22_53)
  refine go_of (B := (T5.setTop (mkF m 56 #[.val (.ref t), .val (.int ((ii <<< ((1 : Int32) &&& 31)) + (1 : Int32)))] [(.int (8 : Int32)), (.int ((own_b1 ch) &&& (255 : Int32))), (.int (((own_b0 ch) &&& (255 : Int32)) <<< ((0 : Int32) &&& 31)))]))) (st5) ?_
  refine go_of (B := (T5.setTop (mkF m 59 #[.val (.ref t), .val (.int ((ii <<< ((1 : Int32) &&& 31)) + (1 : Int32)))] [(.int (((((own_b0 ch) &&& (255 : Int32)) <<< ((0 : Int32) &&& 31)) ||| (((own_b1 ch) &&& (255 : Int32)) <<< ((8 : Int32) &&& 31))).toUInt32.toUInt16.toUInt32.toInt32))]))) (fun _ kk => XS.ishl X5.here hx rfl (hb hby d22_56) rfl (XS.ior X5.here hx rfl (hb hby d22_57) rfl (XS.i2c X5.here hx rfl (hb hby d22_58) rfl kk))) ?_
  refine go_end X5 (v := some (.int (nar .char (((((own_b0 ch) &&& (255 : Int32)) <<< ((0 : Int32) &&& 31)) ||| (((own_b1 ch) &&& (255 : Int32)) <<< ((8 : Int32) &&& 31))).toUInt32.toUInt16.toUInt32.toInt32)))) (fun h => by rw [Bd.returns] at h; cases h) Bd.notSynchronized (by decide) (by decide) (Q := (Q_u_get Z t ii mm vs ch k h0 n0)) ?_ (fun fs hr => retN X5 hx (t := .char) Bd.returns (by simp) (hb hby d22_59) hr)
  unfold Q_u_get
  try rw [e5]
  refine ⟨?_, N0, rfl⟩
  rw [own_gc hc, own_narc16 hc]
theorem d15_0 : decode jdk_43_method_2_code 0 = .ok (.iload_n 1, 1) := by decide +kernel
theorem d15_1 : decode jdk_43_method_2_code 1 = .ok (.aload_n 0, 1) := by decide +kernel
theorem d15_2 : decode jdk_43_method_2_code 2 = .ok (.arraylength, 1) := by decide +kernel
theorem d15_3 : decode jdk_43_method_2_code 3 = .ok (.invokestatic 9, 3) := by decide +kernel
theorem pd__II_V : parseMethodDescriptor "(II)V" = some ⟨[.int, .int], none⟩ := by decide +kernel
theorem d15_6 : decode jdk_43_method_2_code 6 = .ok (.aload_n 0, 1) := by decide +kernel
theorem d15_7 : decode jdk_43_method_2_code 7 = .ok (.iload_n 1, 1) := by decide +kernel
theorem d15_8 : decode jdk_43_method_2_code 8 = .ok (.baload, 1) := by decide +kernel
theorem d15_9 : decode jdk_43_method_2_code 9 = .ok (.sipush 255, 3) := by decide +kernel
theorem d15_12 : decode jdk_43_method_2_code 12 = .ok (.iand, 1) := by decide +kernel
theorem d15_13 : decode jdk_43_method_2_code 13 = .ok (.i2c, 1) := by decide +kernel
theorem d15_14 : decode jdk_43_method_2_code 14 = .ok (.ireturn, 1) := by decide +kernel
def Q_u_lch (Z : State) (t : Addr) (ii : Int32) (nn : Int32) (vs : List Value) (ch : Int32) (k : ClassId) (gF : Value) (h0 : Heap) (n0 : Nat) (v : Option Value) (h : Heap) (L : List Loc) : Prop := v = some (.int ch) ∧ Fr n0 L ∧ h = h0
theorem pn_java_lang_StringLatin1 : plainName "java/lang/StringLatin1" = true := by first | (simp [plainName, overriddenIn]; done) | decide +kernel
theorem ef_u_lch (m : MethodId) (t : Addr) (ii : Int32)  : entryFrame m #[(.ref t), (.int ii)] 2 = mkF m 0 #[.val (.ref t), .val (.int ii)] [] := by first | (simp [entryFrame, mkF, argsToLocals, Value.category]; done) | rfl
theorem u_lch (l : Launch) (Z : State) (a0 : Array Value) (hw : TW a0 Z) (ws : List Jvm.Cond) (t : Addr) (ii : Int32) (nn : Int32) (vs : List Value) (ch : Int32) (k : ClassId) (gF : Value) (h0 : Heap) (n0 : Nat) (Z0 : n0 ≤ h0.size) (O : Old Z n0 h0) (SF : Sta Z Z.heap "jdk/internal/util/Preconditions" "SIOOBE_FORMATTER" "Ljava/util/function/BiFunction;" gF) (rgF : gF.isRef = true) (V : Arv Z h0 t k .byte nn vs (.int 0)) (bi : ¬ ii < 0 ∧ ii < nn) (vl : vs.getD ii.toNatClampNeg (.int 0) = .int (own_b8 ch)) (hc : ¬ ch < 0 ∧ ¬ (255 : Int32) < ch) :
    own_MF l Z (⟨"java/lang/StringLatin1", "charAt", "([BI)C"⟩ : MethodName) jdk_43_method_2_code 2 (some .char) ws (own_R 2 0 0 27) #[(.ref t), (.int ii)] h0 (Q_u_lch Z t ii nn vs ch k gF h0 n0) := by
  have wd := @own_wd _ _ hw
  refine MetFree.of_bodySF (plainFor_of_name pn_java_lang_StringLatin1) hisR ?_
  intro p e s m args below meth c s₁ Bd hml0 hP hK
  obtain ⟨rfl, hZ, hh⟩ := hP
  have hx := Bd.exec
  have hby := Bd.bytes
  have hml : c.maxLocals = 2 := hml0
  have hown : s.vm.findClass "java/lang/StringLatin1" = some m.cls := findClass_of_methodNamed Bd.named
  have hnm := (name_of_methodNamed Bd.named Bd.method).1
  have X0 : Stand p l e (own_R 2 0 0 27) s m #[(.ref t), (.int ii)] below meth c s₁ [] 0 0 := Stand.of_body Bd
  have e0 : s₁.heap = h0 := by rw [← hh, Bd.state]; rfl
  have N0 := Fr.nil n0
  refine go_of (A := s₁.setTop (entryFrame m #[(.ref t), (.int ii)] 2)) (B := s₁.setTop (mkF m 0 #[.val (.ref t), .val (.int ii)] [])) (fun _ kk' => castTop (ef_u_lch m t ii) kk') ?_
  refine go_of (B := (s₁.setTop (mkF m 2 #[.val (.ref t), .val (.int ii)] [(.ref t), (.int ii)]))) (fun _ kk => XS.iloadN X0.here hx rfl (hb hby d15_0) rfl (XS.aloadN X0.here hx rfl (hb hby d15_1) rfl rfl kk)) ?_
  obtain ⟨cl1, Ar1, q1, Sz1, Nn1, Hh1, G1⟩ := id (V)
  have ln1 := len_of Sz1 Nn1
  refine go_of (B := (s₁.setTop (mkF m 3 #[.val (.ref t), .val (.int ii)] [(.int nn), (.int ii)]))) (fun _ kk => X0.arraylength hx (by rw [e0]; exact Ar1.1) (State.isArrayOf_alike hZ.alike Ar1.2.1) (g := (mkF m 2 #[.val (.ref t), .val (.int ii)] [(.ref t), (.int ii)])) rfl rfl (hb hby d15_2) _ (by rw [ln1]; exact kk)) ?_
  obtain ⟨_, _, ⟨T2, L2, k2, n2⟩, -, X2, ⟨Lc2, hQ2, l2, y2, z2⟩, st2⟩ := Jvm.LawKit.callS X0 hx (y := MN6) hown (mvT hZ (wd 74 rfl)) (mvT hZ (wd 75 rfl)) (mvT hZ (wd 3 rfl)) (mvT hZ (wd 76 rfl)) (by decide) (backOf (W := 0) (u_chk l Z a0 hw [] ii nn gF h0 n0 (by first | omega | exact own_ne (by omega) | exact own_le (by omega) | exact own_lt (by omega)) O SF rgF bi) hZ (wd 76 rfl) (wd 3 rfl) (by decide) (by decide)) (g := (mkF m 3 #[.val (.ref t), .val (.int ii)] [(.int nn), (.int ii)])) rfl (by rw [hml]; rfl) (argsL := [(.int ii), (.int nn)]) (rest := []) (lenOf pd__II_V rfl) rfl (by show 2 * 0 + _ ≤ _; exact Nat.le_of_eq rfl) (hb hby d15_3) (fun _ _ => ⟨rfl, e0, (by decide : 0 + 0 ≤ _), (by decide : 0 + 0 ≤ _)⟩)
  dsimp only [Pt.U, Pt.locs, Pt.cells, Pt.slots] at X2 l2 y2 z2 st2 hQ2
  subst l2 y2 z2
  obtain ⟨rfl, N2q, e2⟩ := hQ2
  have N2 := Fr.app N0 N2q
  refine go_of (B := (T2.setTop (mkF m 6 #[.val (.ref t), .val (.int ii)] []))) (st2) ?_
  refine go_of (B := (T2.setTop (mkF m 8 #[.val (.ref t), .val (.int ii)] [(.int ii), (.ref t)]))) (fun _ kk => XS.aloadN X2.here hx rfl (hb hby d15_6) rfl rfl (XS.iloadN X2.here hx rfl (hb hby d15_7) rfl kk)) ?_
  obtain ⟨cl3, Ar3, q3, Sz3, Nn3, Hh3, G3⟩ := id (V)
  refine go_of (B := (T2.setTop (mkF m 14 #[.val (.ref t), .val (.int ii)] [(.int (((own_b8 ch) &&& (255 : Int32)).toUInt32.toUInt16.toUInt32.toInt32))]))) (fun _ kk => X2.baloadBytes hx (j := ii) (v := (.int (own_b8 ch))) (by rw [e2]; exact Ar3.1) (State.isArrayOf_alike hZ.alike Ar3.2.1) Ar3.2.2 (inb_of Sz3 bi) (Hh3.at (inb_of Sz3 bi) vl) (g := (mkF m 8 #[.val (.ref t), .val (.int ii)] [(.int ii), (.ref t)])) rfl rfl (hb hby d15_8) _ (XS.sipush X2.here hx rfl (hb hby d15_9) (XS.iand X2.here hx rfl (hb hby d15_12) rfl (XS.i2c X2.here hx rfl (hb hby d15_13) rfl kk)))) ?_
  refine go_end X2 (v := some (.int (nar .char (((own_b8 ch) &&& (255 : Int32)).toUInt32.toUInt16.toUInt32.toInt32)))) (fun h => by rw [Bd.returns] at h; cases h) Bd.notSynchronized (by decide) (by decide) (Q := (Q_u_lch Z t ii nn vs ch k gF h0 n0)) ?_ (fun fs hr => retN X2 hx (t := .char) Bd.returns (by simp) (hb hby d15_14) hr)
  unfold Q_u_lch
  try rw [e2]
  refine ⟨?_, N2, rfl⟩
  rw [own_b255 hc, own_narc hc]
theorem d24_0 : decode jdk_52_method_91_code 0 = .ok (.iload_n 0, 1) := by decide +kernel
theorem d24_1 : decode jdk_52_method_91_code 1 = .ok (.aload_n 1, 1) := by decide +kernel
theorem d24_2 : decode jdk_52_method_91_code 2 = .ok (.invokestatic 48, 3) := by decide +kernel
theorem pd___B_I : parseMethodDescriptor "([B)I" = some ⟨[(.array .byte)], some .int⟩ := by decide +kernel
theorem d24_5 : decode jdk_52_method_91_code 5 = .ok (.invokestatic 414, 3) := by decide +kernel
theorem d24_8 : decode jdk_52_method_91_code 8 = .ok (.return_, 1) := by decide +kernel
def Q_u_uck (Z : State) (ii : Int32) (t : Addr) (nn : Int32) (mm : Int32) (k : ClassId) (vs : List Value) (gF : Value) (h0 : Heap) (n0 : Nat) (v : Option Value) (h : Heap) (L : List Loc) : Prop := v = none ∧ Fr n0 L ∧ h = h0
theorem ef_u_uck (m : MethodId) (ii : Int32) (t : Addr)  : entryFrame m #[(.int ii), (.ref t)] 2 = mkF m 0 #[.val (.int ii), .val (.ref t)] [] := by first | (simp [entryFrame, mkF, argsToLocals, Value.category]; done) | rfl
theorem u_uck (l : Launch) (Z : State) (a0 : Array Value) (hw : TW a0 Z) (ws : List Jvm.Cond) (ii : Int32) (t : Addr) (nn : Int32) (mm : Int32) (k : ClassId) (vs : List Value) (gF : Value) (h0 : Heap) (n0 : Nat) (Z0 : n0 ≤ h0.size) (O : Old Z n0 h0) (SF : Sta Z Z.heap "jdk/internal/util/Preconditions" "SIOOBE_FORMATTER" "Ljava/util/function/BiFunction;" gF) (rgF : gF.isRef = true) (V : Arv Z h0 t k .byte mm vs (.int 0)) (hsh : mm >>> ((1 : Int32) &&& 31) = nn) (bi : ¬ ii < 0 ∧ ii < nn) :
    own_MF l Z (⟨"java/lang/StringUTF16", "checkIndex", "(I[B)V"⟩ : MethodName) jdk_52_method_91_code 2 none ws (own_R 2 0 0 27) #[(.int ii), (.ref t)] h0 (Q_u_uck Z ii t nn mm k vs gF h0 n0) := by
  have wd := @own_wd _ _ hw
  refine MetFree.of_bodySF (plainFor_of_name pn_java_lang_StringUTF16) hisR ?_
  intro p e s m args below meth c s₁ Bd hml0 hP hK
  obtain ⟨rfl, hZ, hh⟩ := hP
  have hx := Bd.exec
  have hby := Bd.bytes
  have hml : c.maxLocals = 2 := hml0
  have hown : s.vm.findClass "java/lang/StringUTF16" = some m.cls := findClass_of_methodNamed Bd.named
  have hnm := (name_of_methodNamed Bd.named Bd.method).1
  have X0 : Stand p l e (own_R 2 0 0 27) s m #[(.int ii), (.ref t)] below meth c s₁ [] 0 0 := Stand.of_body Bd
  have e0 : s₁.heap = h0 := by rw [← hh, Bd.state]; rfl
  have N0 := Fr.nil n0
  refine go_of (A := s₁.setTop (entryFrame m #[(.int ii), (.ref t)] 2)) (B := s₁.setTop (mkF m 0 #[.val (.int ii), .val (.ref t)] [])) (fun _ kk' => castTop (ef_u_uck m ii t) kk') ?_
  refine go_of (B := (s₁.setTop (mkF m 2 #[.val (.int ii), .val (.ref t)] [(.ref t), (.int ii)]))) (fun _ kk => XS.iloadN X0.here hx rfl (hb hby d24_0) rfl (XS.aloadN X0.here hx rfl (hb hby d24_1) rfl rfl kk)) ?_
  obtain ⟨_, _, ⟨T1, L1, k1, n1⟩, -, X1, ⟨Lc1, hQ1, l1, y1, z1⟩, st1⟩ := Jvm.LawKit.callS X0 hx (y := (⟨"java/lang/StringUTF16", "length", "([B)I"⟩ : MethodName)) hown (mvT hZ (wd 107 rfl)) (mvT hZ (wd 108 rfl)) (mvT hZ (wd 39 rfl)) (mvT hZ (wd 109 rfl)) (by decide) (backOf (W := 1) (u_ul l Z a0 hw [] t nn mm k vs h0 n0 (by first | omega | exact own_ne (by omega) | exact own_le (by omega) | exact own_lt (by omega)) V hsh) hZ (wd 109 rfl) (wd 39 rfl) (by decide) (by decide)) (g := (mkF m 2 #[.val (.int ii), .val (.ref t)] [(.ref t), (.int ii)])) rfl (by rw [hml]; rfl) (argsL := [(.ref t)]) (rest := [(.int ii)]) (lenOf pd___B_I rfl) rfl (by show 2 * 0 + _ ≤ _; exact Nat.le_of_eq rfl) (hb hby d24_2) (fun _ _ => ⟨rfl, e0, (by decide : 0 + 0 ≤ _), (by decide : 0 + 0 ≤ _)⟩)
  dsimp only [Pt.U, Pt.locs, Pt.cells, Pt.slots] at X1 l1 y1 z1 st1 hQ1
  subst l1 y1 z1
  obtain ⟨rfl, N1q, e1⟩ := hQ1
  have N1 := Fr.app N0 N1q
  refine go_of (B := (T1.setTop (mkF m 5 #[.val (.int ii), .val (.ref t)] [(.int nn), (.int ii)]))) (st1) ?_
  obtain ⟨_, _, ⟨T2, L2, k2, n2⟩, -, X2, ⟨Lc2, hQ2, l2, y2, z2⟩, st2⟩ := Jvm.LawKit.callS X1 hx (y := MN6) hown (mvT hZ (wd 110 rfl)) (mvT hZ (wd 75 rfl)) (mvT hZ (wd 3 rfl)) (mvT hZ (wd 76 rfl)) (by decide) (backOf (W := 0) (u_chk l Z a0 hw [] ii nn gF h0 n0 (by first | omega | exact own_ne (by omega) | exact own_le (by omega) | exact own_lt (by omega)) O SF rgF bi) hZ (wd 76 rfl) (wd 3 rfl) (by decide) (by decide)) (g := (mkF m 5 #[.val (.int ii), .val (.ref t)] [(.int nn), (.int ii)])) rfl (by rw [hml]; rfl) (argsL := [(.int ii), (.int nn)]) (rest := []) (lenOf pd__II_V rfl) rfl (by show 2 * 0 + _ ≤ _; exact Nat.le_of_eq rfl) (hb hby d24_5) (fun _ _ => ⟨rfl, e1, (by decide : 0 + 0 ≤ _), (by decide : 0 + 0 ≤ _)⟩)
  dsimp only [Pt.U, Pt.locs, Pt.cells, Pt.slots] at X2 l2 y2 z2 st2 hQ2
  subst l2 y2 z2
  obtain ⟨rfl, N2q, e2⟩ := hQ2
  have N2 := Fr.app N1 N2q
  refine go_of (B := (T2.setTop (mkF m 8 #[.val (.int ii), .val (.ref t)] []))) (st2) ?_
  refine go_end X2 (v := none) (fun _ => rfl) Bd.notSynchronized (by decide) (by decide) (Q := (Q_u_uck Z ii t nn mm k vs gF h0 n0)) ?_ (fun fs hr => X2.returnOut hx Bd.returns (hb hby d24_8) hr)
  unfold Q_u_uck
  try rw [e2]
  exact ⟨rfl, N2, rfl⟩
theorem d23_0 : decode jdk_52_method_83_code 0 = .ok (.iload_n 1, 1) := by decide +kernel
theorem d23_1 : decode jdk_52_method_83_code 1 = .ok (.aload_n 0, 1) := by decide +kernel
theorem d23_2 : decode jdk_52_method_83_code 2 = .ok (.invokestatic 67, 3) := by decide +kernel
theorem pd__I_B_V : parseMethodDescriptor "(I[B)V" = some ⟨[.int, (.array .byte)], none⟩ := by decide +kernel
theorem d23_5 : decode jdk_52_method_83_code 5 = .ok (.aload_n 0, 1) := by decide +kernel
theorem d23_6 : decode jdk_52_method_83_code 6 = .ok (.iload_n 1, 1) := by decide +kernel
theorem d23_7 : decode jdk_52_method_83_code 7 = .ok (.invokestatic 71, 3) := by decide +kernel
theorem pd___BI_C : parseMethodDescriptor "([BI)C" = some ⟨[(.array .byte), .int], some .char⟩ := by decide +kernel
theorem d23_10 : decode jdk_52_method_83_code 10 = .ok (.ireturn, 1) := by decide +kernel
def Q_u_uch (Z : State) (t : Addr) (ii : Int32) (nn : Int32) (mm : Int32) (vs : List Value) (ch : Int32) (k : ClassId) (gF : Value) (h0 : Heap) (n0 : Nat) (v : Option Value) (h : Heap) (L : List Loc) : Prop := v = some (.int ch) ∧ Fr n0 L ∧ h = h0
theorem ef_u_uch (m : MethodId) (t : Addr) (ii : Int32)  : entryFrame m #[(.ref t), (.int ii)] 2 = mkF m 0 #[.val (.ref t), .val (.int ii)] [] := by first | (simp [entryFrame, mkF, argsToLocals, Value.category]; done) | rfl
theorem u_uch (l : Launch) (Z : State) (a0 : Array Value) (hw : TW a0 Z) (ws : List Jvm.Cond) (t : Addr) (ii : Int32) (nn : Int32) (mm : Int32) (vs : List Value) (ch : Int32) (k : ClassId) (gF : Value) (h0 : Heap) (n0 : Nat) (Z0 : n0 ≤ h0.size) (O : Old Z n0 h0) (SU : US Z) (SF : Sta Z Z.heap "jdk/internal/util/Preconditions" "SIOOBE_FORMATTER" "Ljava/util/function/BiFunction;" gF) (rgF : gF.isRef = true) (V : Arv Z h0 t k .byte mm vs (.int 0)) (hsh : mm >>> ((1 : Int32) &&& 31) = nn) (bi : ¬ ii < 0 ∧ ii < nn) (b0 : ¬ (ii <<< ((1 : Int32) &&& 31)) < 0 ∧ (ii <<< ((1 : Int32) &&& 31)) < mm) (b1 : ¬ ((ii <<< ((1 : Int32) &&& 31)) + (1 : Int32)) < 0 ∧ ((ii <<< ((1 : Int32) &&& 31)) + (1 : Int32)) < mm) (v0 : vs.getD (ii <<< ((1 : Int32) &&& 31)).toNatClampNeg (.int 0) = .int (own_b0 ch)) (v1 : vs.getD ((ii <<< ((1 : Int32) &&& 31)) + (1 : Int32)).toNatClampNeg (.int 0) = .int (own_b1 ch)) (hc : ¬ ch < 0 ∧ ¬ (65535 : Int32) < ch) :
    own_MF l Z (⟨"java/lang/StringUTF16", "charAt", "([BI)C"⟩ : MethodName) jdk_52_method_83_code 2 (some .char) ws (own_R 3 0 0 40) #[(.ref t), (.int ii)] h0 (Q_u_uch Z t ii nn mm vs ch k gF h0 n0) := by
  have wd := @own_wd _ _ hw
  refine MetFree.of_bodySF (plainFor_of_name pn_java_lang_StringUTF16) hisR ?_
  intro p e s m args below meth c s₁ Bd hml0 hP hK
  obtain ⟨rfl, hZ, hh⟩ := hP
  have hx := Bd.exec
  have hby := Bd.bytes
  have hml : c.maxLocals = 2 := hml0
  have hown : s.vm.findClass "java/lang/StringUTF16" = some m.cls := findClass_of_methodNamed Bd.named
  have hnm := (name_of_methodNamed Bd.named Bd.method).1
  have X0 : Stand p l e (own_R 3 0 0 40) s m #[(.ref t), (.int ii)] below meth c s₁ [] 0 0 := Stand.of_body Bd
  have e0 : s₁.heap = h0 := by rw [← hh, Bd.state]; rfl
  have N0 := Fr.nil n0
  refine go_of (A := s₁.setTop (entryFrame m #[(.ref t), (.int ii)] 2)) (B := s₁.setTop (mkF m 0 #[.val (.ref t), .val (.int ii)] [])) (fun _ kk' => castTop (ef_u_uch m t ii) kk') ?_
  refine go_of (B := (s₁.setTop (mkF m 2 #[.val (.ref t), .val (.int ii)] [(.ref t), (.int ii)]))) (fun _ kk => XS.iloadN X0.here hx rfl (hb hby d23_0) rfl (XS.aloadN X0.here hx rfl (hb hby d23_1) rfl rfl kk)) ?_
  obtain ⟨_, _, ⟨T1, L1, k1, n1⟩, -, X1, ⟨Lc1, hQ1, l1, y1, z1⟩, st1⟩ := Jvm.LawKit.callS X0 hx (y := (⟨"java/lang/StringUTF16", "checkIndex", "(I[B)V"⟩ : MethodName)) hown (mvT hZ (wd 104 rfl)) (mvT hZ (wd 105 rfl)) (mvT hZ (wd 39 rfl)) (mvT hZ (wd 106 rfl)) (by decide) (backOf (W := 0) (u_uck l Z a0 hw [] ii t nn mm k vs gF h0 n0 (by first | omega | exact own_ne (by omega) | exact own_le (by omega) | exact own_lt (by omega)) O SF rgF V hsh bi) hZ (wd 106 rfl) (wd 39 rfl) (by decide) (by decide)) (g := (mkF m 2 #[.val (.ref t), .val (.int ii)] [(.ref t), (.int ii)])) rfl (by rw [hml]; rfl) (argsL := [(.int ii), (.ref t)]) (rest := []) (lenOf pd__I_B_V rfl) rfl (by show 2 * 0 + _ ≤ _; exact Nat.le_of_eq rfl) (hb hby d23_2) (fun _ _ => ⟨rfl, e0, (by decide : 0 + 0 ≤ _), (by decide : 0 + 0 ≤ _)⟩)
  dsimp only [Pt.U, Pt.locs, Pt.cells, Pt.slots] at X1 l1 y1 z1 st1 hQ1
  subst l1 y1 z1
  obtain ⟨rfl, N1q, e1⟩ := hQ1
  have N1 := Fr.app N0 N1q
  refine go_of (B := (T1.setTop (mkF m 5 #[.val (.ref t), .val (.int ii)] []))) (st1) ?_
  refine go_of (B := (T1.setTop (mkF m 7 #[.val (.ref t), .val (.int ii)] [(.int ii), (.ref t)]))) (fun _ kk => XS.aloadN X1.here hx rfl (hb hby d23_5) rfl rfl (XS.iloadN X1.here hx rfl (hb hby d23_6) rfl kk)) ?_
  obtain ⟨_, _, ⟨T2, L2, k2, n2⟩, -, X2, ⟨Lc2, hQ2, l2, y2, z2⟩, st2⟩ := Jvm.LawKit.callS X1 hx (y := MN14) hown (mvT hZ (wd 98 rfl)) (mvT hZ (wd 99 rfl)) (mvT hZ (wd 39 rfl)) (mvT hZ (wd 100 rfl)) (by decide) (backOf (W := 0) (u_get l Z a0 hw [] t ii mm vs ch k h0 n0 (by first | omega | exact own_ne (by omega) | exact own_le (by omega) | exact own_lt (by omega)) O SU V b0 b1 v0 v1 hc) hZ (wd 100 rfl) (wd 39 rfl) (by decide) (by decide)) (g := (mkF m 7 #[.val (.ref t), .val (.int ii)] [(.int ii), (.ref t)])) rfl (by rw [hml]; rfl) (argsL := [(.ref t), (.int ii)]) (rest := []) (lenOf pd___BI_C rfl) rfl (by show 2 * 0 + _ ≤ _; exact Nat.le_of_eq rfl) (hb hby d23_7) (fun _ _ => ⟨rfl, e1, (by decide : 0 + 0 ≤ _), (by decide : 0 + 0 ≤ _)⟩)
  dsimp only [Pt.U, Pt.locs, Pt.cells, Pt.slots] at X2 l2 y2 z2 st2 hQ2
  subst l2 y2 z2
  obtain ⟨rfl, N2q, e2⟩ := hQ2
  have N2 := Fr.app N1 N2q
  refine go_of (B := (T2.setTop (mkF m 10 #[.val (.ref t), .val (.int ii)] [(.int ch)]))) (st2) ?_
  refine go_end X2 (v := some (.int (nar .char ch))) (fun h => by rw [Bd.returns] at h; cases h) Bd.notSynchronized (by decide) (by decide) (Q := (Q_u_uch Z t ii nn mm vs ch k gF h0 n0)) ?_ (fun fs hr => retN X2 hx (t := .char) Bd.returns (by simp) (hb hby d23_10) hr)
  unfold Q_u_uch
  try rw [e2]
  refine ⟨?_, N2, rfl⟩
  rw [own_narc16 hc]
theorem d13_0 : decode jdk_42_method_56_code 0 = .ok (.aload_n 0, 1) := by decide +kernel
theorem d13_1 : decode jdk_42_method_56_code 1 = .ok (.invokevirtual 492, 3) := by decide +kernel
theorem d13_4 : decode jdk_42_method_56_code 4 = .ok (.ifCond .eq 12, 3) := by decide +kernel
theorem d13_7 : decode jdk_42_method_56_code 7 = .ok (.aload_n 0, 1) := by decide +kernel
theorem d13_8 : decode jdk_42_method_56_code 8 = .ok (.getfield 9, 3) := by decide +kernel
theorem d13_11 : decode jdk_42_method_56_code 11 = .ok (.iload_n 1, 1) := by decide +kernel
theorem d13_12 : decode jdk_42_method_56_code 12 = .ok (.invokestatic 495, 3) := by decide +kernel
theorem d13_15 : decode jdk_42_method_56_code 15 = .ok (.ireturn, 1) := by decide +kernel
theorem d13_16 : decode jdk_42_method_56_code 16 = .ok (.aload_n 0, 1) := by decide +kernel
theorem d13_17 : decode jdk_42_method_56_code 17 = .ok (.getfield 9, 3) := by decide +kernel
theorem d13_20 : decode jdk_42_method_56_code 20 = .ok (.iload_n 1, 1) := by decide +kernel
theorem d13_21 : decode jdk_42_method_56_code 21 = .ok (.invokestatic 498, 3) := by decide +kernel
theorem d13_24 : decode jdk_42_method_56_code 24 = .ok (.ireturn, 1) := by decide +kernel
def Q_u_chal (Z : State) (a : Addr) (ii : Int32) (nn : Int32) (mm : Int32) (cs : List Int32) (gC : Int32) (ch : Int32) (gF : Value) (h0 : Heap) (n0 : Nat) (v : Option Value) (h : Heap) (L : List Loc) : Prop := v = some (.int ch) ∧ Fr n0 L ∧ h = h0
theorem ef_u_chal (m : MethodId) (a : Addr) (ii : Int32)  : entryFrame m #[(.ref a), (.int ii)] 2 = mkF m 0 #[.val (.ref a), .val (.int ii)] [] := by first | (simp [entryFrame, mkF, argsToLocals, Value.category]; done) | rfl
theorem u_chal (l : Launch) (Z : State) (a0 : Array Value) (hw : TW a0 Z) (ws : List Jvm.Cond) (a : Addr) (ii : Int32) (nn : Int32) (mm : Int32) (cs : List Int32) (gC : Int32) (ch : Int32) (gF : Value) (h0 : Heap) (n0 : Nat) (Z0 : n0 ≤ h0.size) (O : Old Z n0 h0) (SC : Sta Z Z.heap "java/lang/String" "COMPACT_STRINGS" "Z" (.int gC)) (hgC : ¬ gC = (0 : Int32)) (S : Str Z h0 a nn cs) (SU : US Z) (SF : Sta Z Z.heap "jdk/internal/util/Preconditions" "SIOOBE_FORMATTER" "Ljava/util/function/BiFunction;" gF) (rgF : gF.isRef = true) (hsh : mm >>> ((1 : Int32) &&& 31) = nn) (bi : ¬ ii < 0 ∧ ii < nn) (b0 : ¬ (ii <<< ((1 : Int32) &&& 31)) < 0 ∧ (ii <<< ((1 : Int32) &&& 31)) < mm) (b1 : ¬ ((ii <<< ((1 : Int32) &&& 31)) + (1 : Int32)) < 0 ∧ ((ii <<< ((1 : Int32) &&& 31)) + (1 : Int32)) < mm) (vl : (cs.map fun c => Value.int (own_b8 c)).getD ii.toNatClampNeg (.int 0) = .int (own_b8 ch)) (v0 : (own_w16 cs).getD (ii <<< ((1 : Int32) &&& 31)).toNatClampNeg (.int 0) = .int (own_b0 ch)) (v1 : (own_w16 cs).getD ((ii <<< ((1 : Int32) &&& 31)) + (1 : Int32)).toNatClampNeg (.int 0) = .int (own_b1 ch)) (hmem : ch ∈ cs) :
    own_MF l Z MN5 jdk_42_method_56_code 2 (some .char) ws (own_R 4 0 0 53) #[(.ref a), (.int ii)] h0 (Q_u_chal Z a ii nn mm cs gC ch gF h0 n0) := by
  have wd := @own_wd _ _ hw
  refine MetFree.of_bodySF (plainFor_of_name pn_java_lang_String) hisR ?_
  intro p e s m args below meth c s₁ Bd hml0 hP hK
  obtain ⟨rfl, hZ, hh⟩ := hP
  have hx := Bd.exec
  have hby := Bd.bytes
  have hml : c.maxLocals = 2 := hml0
  have hown : s.vm.findClass "java/lang/String" = some m.cls := findClass_of_methodNamed Bd.named
  have hnm := (name_of_methodNamed Bd.named Bd.method).1
  have X0 : Stand p l e (own_R 4 0 0 53) s m #[(.ref a), (.int ii)] below meth c s₁ [] 0 0 := Stand.of_body Bd
  have e0 : s₁.heap = h0 := by rw [← hh, Bd.state]; rfl
  have N0 := Fr.nil n0
  obtain ⟨t, k, Ea, Fc, Fv, Va, hcs⟩ := id S
  have lta := own_nlt (Ea.lt)
  have ltt := own_nlt (Va.lt)
  have hci : ¬ ch < 0 ∧ ¬ (255 : Int32) < ch := hcs ch hmem
  refine go_of (A := s₁.setTop (entryFrame m #[(.ref a), (.int ii)] 2)) (B := s₁.setTop (mkF m 0 #[.val (.ref a), .val (.int ii)] [])) (fun _ kk' => castTop (ef_u_chal m a ii) kk') ?_
  refine go_of (B := (s₁.setTop (mkF m 1 #[.val (.ref a), .val (.int ii)] [(.ref a)]))) (fun _ kk => XS.aloadN X0.here hx rfl (hb hby d13_0) rfl rfl kk) ?_
  obtain ⟨cq1, kq1, q1a, q1b, q1c⟩ := isOf hZ e0 Ea
  obtain ⟨_, _, ⟨T1, L1, k1, n1⟩, -, X1, ⟨Lc1, hQ1, l1, y1, z1⟩, st1⟩ := X0.virtualBack hx (y := MN9) (z := MN9) hown (mvT hZ (wd 65 rfl)) (mvT hZ (wd 66 rfl)) (notFace_of_selects (args := #[]) (mvT hZ (wd 68 rfl))) (mvT hZ (wd 68 rfl)) (mvT hZ (wd 67 rfl)) (by decide) (backOf (W := 0) (str_latin l Z a0 hw [] a gC h0 n0 Z0 O SC hgC Fc) hZ (wd 69 rfl) (wd 3 rfl) (by decide) (by decide)) q1a q1c (g := (mkF m 1 #[.val (.ref a), .val (.int ii)] [(.ref a)])) rfl (by rw [hml]; rfl) (Steps.refl _) (argsL := []) (rest := []) (lenOf pd___Z rfl) rfl (by show 2 * 0 + _ ≤ _; exact Nat.le_of_eq rfl) (hb hby d13_1) (fun _ _ => ⟨rfl, e0, (by decide : 0 + 0 ≤ _), (by decide : 0 + 0 ≤ _)⟩)
  dsimp only [Pt.U, Pt.locs, Pt.cells, Pt.slots] at X1 l1 y1 z1 st1 hQ1
  subst l1 y1 z1
  obtain ⟨rfl, N1q, e1⟩ := hQ1
  have N1 := Fr.app N0 N1q
  refine go_tr (B := (T1.setTop (mkF m 4 #[.val (.ref a), .val (.int ii)] [(.int (1 : Int32))]))) (st1) ?_
  refine go_of (B := (T1.setTop (mkF m 8 #[.val (.ref a), .val (.int ii)] [(.ref a)]))) (fun _ kk => XS.ifNo X1.here hx rfl (hb hby d13_4) rfl ((if0 _ _).trans (feq (by decide : ¬ ((1 : Int32) = (0 : Int32)))).1) (XS.aloadN X1.here hx rfl (hb hby d13_7) rfl rfl kk)) ?_
  obtain ⟨T2, X2, e2, st2⟩ := getF X1 hx hZ hown (host := "") (Or.inl (wd 25 rfl)) Via.refl e1 Fv (g := (mkF m 8 #[.val (.ref a), .val (.int ii)] [(.ref a)])) rfl rfl (hb hby d13_8)
  refine go_of (B := (T2.setTop (mkF m 11 #[.val (.ref a), .val (.int ii)] [(.ref t)]))) (st2) ?_
  refine go_of (B := (T2.setTop (mkF m 12 #[.val (.ref a), .val (.int ii)] [(.int ii), (.ref t)]))) (fun _ kk => XS.iloadN X2.here hx rfl (hb hby d13_11) rfl kk) ?_
  obtain ⟨_, _, ⟨T3, L3, k3, n3⟩, -, X3, ⟨Lc3, hQ3, l3, y3, z3⟩, st3⟩ := Jvm.LawKit.callS X2 hx (y := (⟨"java/lang/StringLatin1", "charAt", "([BI)C"⟩ : MethodName)) hown (mvT hZ (wd 70 rfl)) (mvT hZ (wd 71 rfl)) (mvT hZ (wd 72 rfl)) (mvT hZ (wd 73 rfl)) (by decide) (backOf (W := 0) (u_lch l Z a0 hw [] t ii nn _ ch k gF h0 n0 (by first | omega | exact own_ne (by omega) | exact own_le (by omega) | exact own_lt (by omega)) O SF rgF Va bi vl hci) hZ (wd 73 rfl) (wd 72 rfl) (by decide) (by decide)) (g := (mkF m 12 #[.val (.ref a), .val (.int ii)] [(.int ii), (.ref t)])) rfl (by rw [hml]; rfl) (argsL := [(.ref t), (.int ii)]) (rest := []) (lenOf pd___BI_C rfl) rfl (by show 2 * 0 + _ ≤ _; exact Nat.le_of_eq rfl) (hb hby d13_12) (fun _ _ => ⟨rfl, e2, (by decide : 0 + 0 ≤ _), (by decide : 0 + 0 ≤ _)⟩)
  dsimp only [Pt.U, Pt.locs, Pt.cells, Pt.slots] at X3 l3 y3 z3 st3 hQ3
  subst l3 y3 z3
  obtain ⟨rfl, N3q, e3⟩ := hQ3
  have N3 := Fr.app N1 N3q
  refine go_of (B := (T3.setTop (mkF m 15 #[.val (.ref a), .val (.int ii)] [(.int ch)]))) (st3) ?_
  refine go_end X3 (v := some (.int (nar .char ch))) (fun h => by rw [Bd.returns] at h; cases h) Bd.notSynchronized (by decide) (by decide) (Q := (Q_u_chal Z a ii nn mm cs gC ch gF h0 n0)) ?_ (fun fs hr => retN X3 hx (t := .char) Bd.returns (by simp) (hb hby d13_15) hr)
  unfold Q_u_chal
  try rw [e3]
  refine ⟨?_, N3, rfl⟩
  rw [own_narc hci]
def Q_u_chaw (Z : State) (a : Addr) (ii : Int32) (nn : Int32) (mm : Int32) (cs : List Int32) (gC : Int32) (ch : Int32) (gF : Value) (h0 : Heap) (n0 : Nat) (v : Option Value) (h : Heap) (L : List Loc) : Prop := v = some (.int ch) ∧ Fr n0 L ∧ h = h0
theorem ef_u_chaw (m : MethodId) (a : Addr) (ii : Int32)  : entryFrame m #[(.ref a), (.int ii)] 2 = mkF m 0 #[.val (.ref a), .val (.int ii)] [] := by first | (simp [entryFrame, mkF, argsToLocals, Value.category]; done) | rfl
theorem u_chaw (l : Launch) (Z : State) (a0 : Array Value) (hw : TW a0 Z) (ws : List Jvm.Cond) (a : Addr) (ii : Int32) (nn : Int32) (mm : Int32) (cs : List Int32) (gC : Int32) (ch : Int32) (gF : Value) (h0 : Heap) (n0 : Nat) (Z0 : n0 ≤ h0.size) (O : Old Z n0 h0) (SC : Sta Z Z.heap "java/lang/String" "COMPACT_STRINGS" "Z" (.int gC)) (hgC : ¬ gC = (0 : Int32)) (S : StrW Z h0 a mm cs) (SU : US Z) (SF : Sta Z Z.heap "jdk/internal/util/Preconditions" "SIOOBE_FORMATTER" "Ljava/util/function/BiFunction;" gF) (rgF : gF.isRef = true) (hsh : mm >>> ((1 : Int32) &&& 31) = nn) (bi : ¬ ii < 0 ∧ ii < nn) (b0 : ¬ (ii <<< ((1 : Int32) &&& 31)) < 0 ∧ (ii <<< ((1 : Int32) &&& 31)) < mm) (b1 : ¬ ((ii <<< ((1 : Int32) &&& 31)) + (1 : Int32)) < 0 ∧ ((ii <<< ((1 : Int32) &&& 31)) + (1 : Int32)) < mm) (vl : (cs.map fun c => Value.int (own_b8 c)).getD ii.toNatClampNeg (.int 0) = .int (own_b8 ch)) (v0 : (own_w16 cs).getD (ii <<< ((1 : Int32) &&& 31)).toNatClampNeg (.int 0) = .int (own_b0 ch)) (v1 : (own_w16 cs).getD ((ii <<< ((1 : Int32) &&& 31)) + (1 : Int32)).toNatClampNeg (.int 0) = .int (own_b1 ch)) (hmem : ch ∈ cs) :
    own_MF l Z MN5 jdk_42_method_56_code 2 (some .char) ws (own_R 4 0 0 53) #[(.ref a), (.int ii)] h0 (Q_u_chaw Z a ii nn mm cs gC ch gF h0 n0) := by
  have wd := @own_wd _ _ hw
  refine MetFree.of_bodySF (plainFor_of_name pn_java_lang_String) hisR ?_
  intro p e s m args below meth c s₁ Bd hml0 hP hK
  obtain ⟨rfl, hZ, hh⟩ := hP
  have hx := Bd.exec
  have hby := Bd.bytes
  have hml : c.maxLocals = 2 := hml0
  have hown : s.vm.findClass "java/lang/String" = some m.cls := findClass_of_methodNamed Bd.named
  have hnm := (name_of_methodNamed Bd.named Bd.method).1
  have X0 : Stand p l e (own_R 4 0 0 53) s m #[(.ref a), (.int ii)] below meth c s₁ [] 0 0 := Stand.of_body Bd
  have e0 : s₁.heap = h0 := by rw [← hh, Bd.state]; rfl
  have N0 := Fr.nil n0
  obtain ⟨t, k, Ea, Fc, Fv, Va, hcs⟩ := id S
  have lta := own_nlt (Ea.lt)
  have ltt := own_nlt (Va.lt)
  have hci : ¬ ch < 0 ∧ ¬ (65535 : Int32) < ch := hcs ch hmem
  refine go_of (A := s₁.setTop (entryFrame m #[(.ref a), (.int ii)] 2)) (B := s₁.setTop (mkF m 0 #[.val (.ref a), .val (.int ii)] [])) (fun _ kk' => castTop (ef_u_chaw m a ii) kk') ?_
  refine go_of (B := (s₁.setTop (mkF m 1 #[.val (.ref a), .val (.int ii)] [(.ref a)]))) (fun _ kk => XS.aloadN X0.here hx rfl (hb hby d13_0) rfl rfl kk) ?_
  obtain ⟨cq1, kq1, q1a, q1b, q1c⟩ := isOf hZ e0 Ea
  obtain ⟨_, _, ⟨T1, L1, k1, n1⟩, -, X1, ⟨Lc1, hQ1, l1, y1, z1⟩, st1⟩ := X0.virtualBack hx (y := MN9) (z := MN9) hown (mvT hZ (wd 65 rfl)) (mvT hZ (wd 66 rfl)) (notFace_of_selects (args := #[]) (mvT hZ (wd 68 rfl))) (mvT hZ (wd 68 rfl)) (mvT hZ (wd 67 rfl)) (by decide) (backOf (W := 0) (u_lat l Z a0 hw [] a gC h0 n0 Z0 O SC hgC Fc) hZ (wd 69 rfl) (wd 3 rfl) (by decide) (by decide)) q1a q1c (g := (mkF m 1 #[.val (.ref a), .val (.int ii)] [(.ref a)])) rfl (by rw [hml]; rfl) (Steps.refl _) (argsL := []) (rest := []) (lenOf pd___Z rfl) rfl (by show 2 * 0 + _ ≤ _; exact Nat.le_of_eq rfl) (hb hby d13_1) (fun _ _ => ⟨rfl, e0, (by decide : 0 + 0 ≤ _), (by decide : 0 + 0 ≤ _)⟩)
  dsimp only [Pt.U, Pt.locs, Pt.cells, Pt.slots] at X1 l1 y1 z1 st1 hQ1
  subst l1 y1 z1
  obtain ⟨rfl, N1q, e1⟩ := hQ1
  have N1 := Fr.app N0 N1q
  refine go_tr (B := (T1.setTop (mkF m 4 #[.val (.ref a), .val (.int ii)] [(.int (0 : Int32))]))) (st1) ?_
  refine go_of (B := (T1.setTop (mkF m 17 #[.val (.ref a), .val (.int ii)] [(.ref a)]))) (fun _ kk => XS.ifYes X1.here hx rfl (pc0 := 4) (pc' := 16) rfl (hb hby d13_4) rfl ((if0 _ _).trans (teq (by decide : (0 : Int32) = (0 : Int32))).1) (by decide) (by decide) (XS.aloadN X1.here hx rfl (hb hby d13_16) rfl rfl kk)) ?_
  obtain ⟨T2, X2, e2, st2⟩ := getF X1 hx hZ hown (host := "") (Or.inl (wd 25 rfl)) Via.refl e1 Fv (g := (mkF m 17 #[.val (.ref a), .val (.int ii)] [(.ref a)])) rfl rfl (hb hby d13_17)
  refine go_of (B := (T2.setTop (mkF m 20 #[.val (.ref a), .val (.int ii)] [(.ref t)]))) (st2) ?_
  refine go_of (B := (T2.setTop (mkF m 21 #[.val (.ref a), .val (.int ii)] [(.int ii), (.ref t)]))) (fun _ kk => XS.iloadN X2.here hx rfl (hb hby d13_20) rfl kk) ?_
  obtain ⟨_, _, ⟨T3, L3, k3, n3⟩, -, X3, ⟨Lc3, hQ3, l3, y3, z3⟩, st3⟩ := Jvm.LawKit.callS X2 hx (y := (⟨"java/lang/StringUTF16", "charAt", "([BI)C"⟩ : MethodName)) hown (mvT hZ (wd 101 rfl)) (mvT hZ (wd 102 rfl)) (mvT hZ (wd 39 rfl)) (mvT hZ (wd 103 rfl)) (by decide) (backOf (W := 0) (u_uch l Z a0 hw [] t ii nn mm _ ch k gF h0 n0 (by first | omega | exact own_ne (by omega) | exact own_le (by omega) | exact own_lt (by omega)) O SU SF rgF Va hsh bi b0 b1 v0 v1 hci) hZ (wd 103 rfl) (wd 39 rfl) (by decide) (by decide)) (g := (mkF m 21 #[.val (.ref a), .val (.int ii)] [(.int ii), (.ref t)])) rfl (by rw [hml]; rfl) (argsL := [(.ref t), (.int ii)]) (rest := []) (lenOf pd___BI_C rfl) rfl (by show 2 * 0 + _ ≤ _; exact Nat.le_of_eq rfl) (hb hby d13_21) (fun _ _ => ⟨rfl, e2, (by decide : 0 + 0 ≤ _), (by decide : 0 + 0 ≤ _)⟩)
  dsimp only [Pt.U, Pt.locs, Pt.cells, Pt.slots] at X3 l3 y3 z3 st3 hQ3
  subst l3 y3 z3
  obtain ⟨rfl, N3q, e3⟩ := hQ3
  have N3 := Fr.app N1 N3q
  refine go_of (B := (T3.setTop (mkF m 24 #[.val (.ref a), .val (.int ii)] [(.int ch)]))) (st3) ?_
  refine go_end X3 (v := some (.int (nar .char ch))) (fun h => by rw [Bd.returns] at h; cases h) Bd.notSynchronized (by decide) (by decide) (Q := (Q_u_chaw Z a ii nn mm cs gC ch gF h0 n0)) ?_ (fun fs hr => retN X3 hx (t := .char) Bd.returns (by simp) (hb hby d13_24) hr)
  unfold Q_u_chaw
  try rw [e3]
  refine ⟨?_, N3, rfl⟩
  rw [own_narc16 hci]
theorem u_cha (l : Launch) (Z : State) (a0 : Array Value) (hw : ∀ d ∈ tables_1, d.before a0 Z = true) (ws : List Jvm.Cond) (a : Addr) (ii : Int32) (nn : Int32) (mm : Int32) (cs : List Int32) (gC : Int32) (ch : Int32) (gF : Value) (h0 : Heap) (n0 : Nat) (Z0 : n0 ≤ h0.size) (O : Old Z n0 h0) (SC : Sta Z Z.heap "java/lang/String" "COMPACT_STRINGS" "Z" (.int gC)) (hgC : ¬ gC = (0 : Int32)) (S : StrU Z h0 a nn mm cs) (SU : US Z) (SF : Sta Z Z.heap "jdk/internal/util/Preconditions" "SIOOBE_FORMATTER" "Ljava/util/function/BiFunction;" gF) (rgF : gF.isRef = true) (hsh : mm >>> ((1 : Int32) &&& 31) = nn) (bi : ¬ ii < 0 ∧ ii < nn) (b0 : ¬ (ii <<< ((1 : Int32) &&& 31)) < 0 ∧ (ii <<< ((1 : Int32) &&& 31)) < mm) (b1 : ¬ ((ii <<< ((1 : Int32) &&& 31)) + (1 : Int32)) < 0 ∧ ((ii <<< ((1 : Int32) &&& 31)) + (1 : Int32)) < mm) (vl : (cs.map fun c => Value.int (own_b8 c)).getD ii.toNatClampNeg (.int 0) = .int (own_b8 ch)) (v0 : (own_w16 cs).getD (ii <<< ((1 : Int32) &&& 31)).toNatClampNeg (.int 0) = .int (own_b0 ch)) (v1 : (own_w16 cs).getD ((ii <<< ((1 : Int32) &&& 31)) + (1 : Int32)).toNatClampNeg (.int 0) = .int (own_b1 ch)) (hmem : ch ∈ cs) :
    MetFree l MN5 (head1 (Jvm.Cond.code MN5 jdk_42_method_56_code 2 (some .char) :: ws) (own_R 4 0 0 53)) (fun aa' U1' => aa' = #[(.ref a), (.int ii)] ∧ Z.Warmed39 U1'.vm ∧ U1'.heap = h0) (fun _ _ _ _ _ => True) (fun _ U1' oo' U2' => ∃ vv' LL', oo' = .returned vv' ∧ (Q_u_chal Z a ii nn mm cs gC ch gF h0 n0) vv' U2'.heap LL' ∧ FrameEnd U1' oo' U2' LL' (own_R 4 0 0 53).cells (own_R 4 0 0 53).slots) := by
  rcases S with S | S
  · exact u_chal l Z a0 hw ws a ii nn mm cs gC ch gF h0 n0 Z0 O SC hgC S SU SF rgF hsh bi b0 b1 vl v0 v1 hmem
  · exact u_chaw l Z a0 hw ws a ii nn mm cs gC ch gF h0 n0 Z0 O SC hgC S SU SF rgF hsh bi b0 b1 vl v0 v1 hmem
theorem d5_7 : decode prog_38_method_2_code 7 = .ok (.aload_n 0, 1) := by decide +kernel
theorem d5_8 : decode prog_38_method_2_code 8 = .ok (.invokevirtual 13, 3) := by decide +kernel
theorem pd___I : parseMethodDescriptor "()I" = some ⟨[], some .int⟩ := by decide +kernel
theorem d5_11 : decode prog_38_method_2_code 11 = .ok (.iload_n 1, 1) := by decide +kernel
theorem d5_12 : decode prog_38_method_2_code 12 = .ok (.if_icmp .le 5, 3) := by decide +kernel
def Q_nam_1 (Z : State) (a : Addr) (mx : Int32) (c0 : Int32) (gC : Int32) (gF : Value) (h0 : Heap) (n0 : Nat) (v : Option Value) (h : Heap) (L : List Loc) : Prop := v = some (.int (own_nm 1 mx [c0])) ∧ Fr n0 L ∧ h = h0
theorem d5_17 : decode prog_38_method_2_code 17 = .ok (.iconst 0, 1) := by decide +kernel
theorem d5_18 : decode prog_38_method_2_code 18 = .ok (.istore_n 2, 1) := by decide +kernel
theorem d5_19 : decode prog_38_method_2_code 19 = .ok (.iload_n 2, 1) := by decide +kernel
theorem d5_20 : decode prog_38_method_2_code 20 = .ok (.aload_n 0, 1) := by decide +kernel
theorem d5_21 : decode prog_38_method_2_code 21 = .ok (.invokevirtual 13, 3) := by decide +kernel
theorem d5_24 : decode prog_38_method_2_code 24 = .ok (.if_icmp .ge 59, 3) := by decide +kernel
theorem d5_27 : decode prog_38_method_2_code 27 = .ok (.aload_n 0, 1) := by decide +kernel
theorem d5_28 : decode prog_38_method_2_code 28 = .ok (.iload_n 2, 1) := by decide +kernel
theorem d5_29 : decode prog_38_method_2_code 29 = .ok (.invokevirtual 17, 3) := by decide +kernel
theorem pd__I_C : parseMethodDescriptor "(I)C" = some ⟨[.int], some .char⟩ := by decide +kernel
theorem d5_32 : decode prog_38_method_2_code 32 = .ok (.istore_n 3, 1) := by decide +kernel
theorem d5_77 : decode prog_38_method_2_code 77 = .ok (.iinc 2 1, 3) := by decide +kernel
theorem d5_80 : decode prog_38_method_2_code 80 = .ok (.goto (-61), 3) := by decide +kernel
theorem d5_83 : decode prog_38_method_2_code 83 = .ok (.iconst 1, 1) := by decide +kernel
theorem d5_84 : decode prog_38_method_2_code 84 = .ok (.ireturn, 1) := by decide +kernel
theorem d5_75 : decode prog_38_method_2_code 75 = .ok (.iconst 0, 1) := by decide +kernel
theorem d5_76 : decode prog_38_method_2_code 76 = .ok (.ireturn, 1) := by decide +kernel
theorem ef_nam_1 (m : MethodId) (a : Addr) (mx : Int32)  : entryFrame m #[(.ref a), (.int mx)] 4 = mkF m 0 #[.val (.ref a), .val (.int mx), .unset, .unset] [] := by first | (simp [entryFrame, mkF, argsToLocals, Value.category]; done) | rfl
theorem nam_1 (l : Launch) (Z : State) (a0 : Array Value) (hw : TW a0 Z) (ws : List Jvm.Cond) (a : Addr) (mx : Int32) (c0 : Int32) (gC : Int32) (gF : Value) (h0 : Heap) (n0 : Nat) (Z0 : n0 ≤ h0.size) (O : Old Z n0 h0) (SC : Sta Z Z.heap "java/lang/String" "COMPACT_STRINGS" "Z" (.int gC)) (hgC : ¬ gC = (0 : Int32)) (S : StrU Z h0 a 1 2 [c0]) (SU : US Z) (SF : Sta Z Z.heap "jdk/internal/util/Preconditions" "SIOOBE_FORMATTER" "Ljava/util/function/BiFunction;" gF) (rgF : gF.isRef = true) :
    own_MF l Z MN0 prog_38_method_2_code 4 (some .boolean) ws (own_R 5 0 0 66) #[(.ref a), (.int mx)] h0 (Q_nam_1 Z a mx c0 gC gF h0 n0) := by
  have wd := @own_wd _ _ hw
  refine MetFree.of_bodySF (plainFor_of_name pn_com_example_libpubid_libpubid_store_Names) hisR ?_
  intro p e s m args below meth c s₁ Bd hml0 hP hK
  obtain ⟨rfl, hZ, hh⟩ := hP
  have hx := Bd.exec
  have hby := Bd.bytes
  have hml : c.maxLocals = 4 := hml0
  have hown : s.vm.findClass "com/example/libpubid/libpubid/store/Names" = some m.cls := findClass_of_methodNamed Bd.named
  have hnm := (name_of_methodNamed Bd.named Bd.method).1
  have X0 : Stand p l e (own_R 5 0 0 66) s m #[(.ref a), (.int mx)] below meth c s₁ [] 0 0 := Stand.of_body Bd
  have e0 : s₁.heap = h0 := by rw [← hh, Bd.state]; rfl
  have N0 := Fr.nil n0
  refine go_of (A := s₁.setTop (entryFrame m #[(.ref a), (.int mx)] 4)) (B := s₁.setTop (mkF m 0 #[.val (.ref a), .val (.int mx), .unset, .unset] [])) (fun _ kk' => castTop (ef_nam_1 m a mx) kk') ?_
  refine go_of (B := (s₁.setTop (mkF m 1 #[.val (.ref a), .val (.int mx), .unset, .unset] [(.ref a)]))) (fun _ kk => XS.aloadN X0.here hx rfl (hb hby d5_0) rfl rfl kk) ?_
  obtain ⟨cq1, kq1, q1a, q1b, q1c⟩ := isOf hZ e0 S.exa
  obtain ⟨_, _, ⟨T1, L1, k1, n1⟩, -, X1, ⟨Lc1, hQ1, l1, y1, z1⟩, st1⟩ := X0.virtualBack hx (y := MN8) (z := MN8) hown (mvT hZ (wd 31 rfl)) (mvT hZ (wd 32 rfl)) (notFace_of_selects (args := #[]) (mvT hZ (wd 34 rfl))) (mvT hZ (wd 34 rfl)) (mvT hZ (wd 33 rfl)) (by decide) (backOf (W := 0) (u_emp l Z a0 hw [] a (1 : Int32) (2 : Int32) [c0] gC h0 n0 (by first | omega | exact own_ne (by omega) | exact own_le (by omega) | exact own_lt (by omega)) O SC hgC S ⟨by decide, by decide⟩) hZ (wd 35 rfl) (wd 3 rfl) (by decide) (by decide)) q1a q1c (g := (mkF m 1 #[.val (.ref a), .val (.int mx), .unset, .unset] [(.ref a)])) rfl (by rw [hml]; rfl) (Steps.refl _) (argsL := []) (rest := []) (lenOf pd___Z rfl) rfl (by show 2 * 0 + _ ≤ _; exact Nat.le_of_eq rfl) (hb hby d5_1) (fun _ _ => ⟨rfl, e0, (by decide : 0 + 0 ≤ _), (by decide : 0 + 0 ≤ _)⟩)
  dsimp only [Pt.U, Pt.locs, Pt.cells, Pt.slots] at X1 l1 y1 z1 st1 hQ1
  subst l1 y1 z1
  obtain ⟨rfl, N1q, e1⟩ := hQ1
  have N1 := Fr.app N0 N1q
  refine go_tr (B := (T1.setTop (mkF m 4 #[.val (.ref a), .val (.int mx), .unset, .unset] [(.int (0 : Int32))]))) (st1) ?_
  refine go_of (B := (T1.setTop (mkF m 8 #[.val (.ref a), .val (.int mx), .unset, .unset] [(.ref a)]))) (fun _ kk => XS.ifNo X1.here hx rfl (hb hby d5_4) rfl ((if0 _ _).trans (teq (by decide : (0 : Int32) = (0 : Int32))).2) (XS.aloadN X1.here hx rfl (hb hby d5_7) rfl rfl kk)) ?_
  obtain ⟨cq2, kq2, q2a, q2b, q2c⟩ := isOf hZ e1 S.exa
  obtain ⟨_, _, ⟨T2, L2, k2, n2⟩, -, X2, ⟨Lc2, hQ2, l2, y2, z2⟩, st2⟩ := X1.virtualBack hx (y := MN10) (z := MN10) hown (mvT hZ (wd 50 rfl)) (mvT hZ (wd 51 rfl)) (notFace_of_selects (args := #[]) (mvT hZ (wd 53 rfl))) (mvT hZ (wd 53 rfl)) (mvT hZ (wd 52 rfl)) (by decide) (backOf (W := 0) (u_len l Z a0 hw [] a (1 : Int32) (2 : Int32) [c0] gC h0 n0 (by first | omega | exact own_ne (by omega) | exact own_le (by omega) | exact own_lt (by omega)) O SC hgC S (by decide)) hZ (wd 54 rfl) (wd 3 rfl) (by decide) (by decide)) q2a q2c (g := (mkF m 8 #[.val (.ref a), .val (.int mx), .unset, .unset] [(.ref a)])) rfl (by rw [hml]; rfl) (Steps.refl _) (argsL := []) (rest := []) (lenOf pd___I rfl) rfl (by show 2 * 0 + _ ≤ _; exact Nat.le_of_eq rfl) (hb hby d5_8) (fun _ _ => ⟨rfl, e1, (by decide : 0 + 0 ≤ _), (by decide : 0 + 0 ≤ _)⟩)
  dsimp only [Pt.U, Pt.locs, Pt.cells, Pt.slots] at X2 l2 y2 z2 st2 hQ2
  subst l2 y2 z2
  obtain ⟨rfl, N2q, e2⟩ := hQ2
  have N2 := Fr.app N1 N2q
  refine go_tr (B := (T2.setTop (mkF m 11 #[.val (.ref a), .val (.int mx), .unset, .unset] [(.int (1 : Int32))]))) (st2) ?_
  refine go_of (B := (T2.setTop (mkF m 12 #[.val (.ref a), .val (.int mx), .unset, .unset] [(.int mx), (.int (1 : Int32))]))) (fun _ kk => XS.iloadN X2.here hx rfl (hb hby d5_11) rfl kk) ?_
  by_cases hcc3 : mx < (1 : Int32)
  · refine go_of (B := (T2.setTop (mkF m 16 #[.val (.ref a), .val (.int mx), .unset, .unset] [(.int (0 : Int32))]))) (fun _ kk => XS.icmpNo X2.here hx rfl (hb hby d5_12) rfl (tlt hcc3).2.2.2 (XS.iconst X2.here hx rfl (hb hby d5_15) kk)) ?_
    refine go_end X2 (v := some (.int (nar .boolean (0 : Int32)))) (fun h => by rw [Bd.returns] at h; cases h) Bd.notSynchronized (by decide) (by decide) (Q := (Q_nam_1 Z a mx c0 gC gF h0 n0)) ?_ (fun fs hr => retN X2 hx (t := .boolean) Bd.returns (by simp) (hb hby d5_16) hr)
    unfold Q_nam_1
    try rw [e2]
    refine ⟨?_, N2, rfl⟩
    simp [own_nm, nar, hcc3]
  · refine go_of (B := (T2.setTop (mkF m 21 #[.val (.ref a), .val (.int mx), .val (.int (0 : Int32)), .unset] [(.ref a), (.int (0 : Int32))]))) (fun _ kk => XS.icmpYes X2.here hx rfl (pc0 := 12) (pc' := 17) rfl (hb hby d5_12) rfl (flt hcc3).2.2.2 (by decide) (by decide) (XS.iconst X2.here hx rfl (hb hby d5_17) (XS.istoreN X2.here hx rfl (hb hby d5_18) rfl rfl (XS.iloadN X2.here hx rfl (hb hby d5_19) rfl (XS.aloadN X2.here hx rfl (hb hby d5_20) rfl rfl kk))))) ?_
    obtain ⟨cq4, kq4, q4a, q4b, q4c⟩ := isOf hZ e2 S.exa
    obtain ⟨_, _, ⟨T4, L4, k4, n4⟩, -, X4, ⟨Lc4, hQ4, l4, y4, z4⟩, st4⟩ := X2.virtualBack hx (y := MN10) (z := MN10) hown (mvT hZ (wd 50 rfl)) (mvT hZ (wd 51 rfl)) (notFace_of_selects (args := #[]) (mvT hZ (wd 53 rfl))) (mvT hZ (wd 53 rfl)) (mvT hZ (wd 52 rfl)) (by decide) (backOf (W := 1) (u_len l Z a0 hw [] a (1 : Int32) (2 : Int32) [c0] gC h0 n0 (by first | omega | exact own_ne (by omega) | exact own_le (by omega) | exact own_lt (by omega)) O SC hgC S (by decide)) hZ (wd 54 rfl) (wd 3 rfl) (by decide) (by decide)) q4a q4c (g := (mkF m 21 #[.val (.ref a), .val (.int mx), .val (.int (0 : Int32)), .unset] [(.ref a), (.int (0 : Int32))])) rfl (by rw [hml]; rfl) (Steps.refl _) (argsL := []) (rest := [(.int (0 : Int32))]) (lenOf pd___I rfl) rfl (by show 2 * 0 + _ ≤ _; exact Nat.le_of_eq rfl) (hb hby d5_21) (fun _ _ => ⟨rfl, e2, (by decide : 0 + 0 ≤ _), (by decide : 0 + 0 ≤ _)⟩)
    dsimp only [Pt.U, Pt.locs, Pt.cells, Pt.slots] at X4 l4 y4 z4 st4 hQ4
    subst l4 y4 z4
    obtain ⟨rfl, N4q, e4⟩ := hQ4
    have N4 := Fr.app N2 N4q
    refine go_tr (B := (T4.setTop (mkF m 24 #[.val (.ref a), .val (.int mx), .val (.int (0 : Int32)), .unset] [(.int (1 : Int32)), (.int (0 : Int32))]))) (st4) ?_
    refine go_of (B := (T4.setTop (mkF m 29 #[.val (.ref a), .val (.int mx), .val (.int (0 : Int32)), .unset] [(.int (0 : Int32)), (.ref a)]))) (fun _ kk => XS.icmpNo X4.here hx rfl (hb hby d5_24) rfl (tlt (by decide : (0 : Int32) < (1 : Int32))).2.1 (XS.aloadN X4.here hx rfl (hb hby d5_27) rfl rfl (XS.iloadN X4.here hx rfl (hb hby d5_28) rfl kk))) ?_
    obtain ⟨cq5, kq5, q5a, q5b, q5c⟩ := isOf hZ e4 S.exa
    obtain ⟨_, _, ⟨T5, L5, k5, n5⟩, -, X5, ⟨Lc5, hQ5, l5, y5, z5⟩, st5⟩ := X4.virtualBack hx (y := MN5) (z := MN5) hown (mvT hZ (wd 60 rfl)) (mvT hZ (wd 61 rfl)) (notFace_of_selects (args := #[]) (mvT hZ (wd 63 rfl))) (mvT hZ (wd 63 rfl)) (mvT hZ (wd 62 rfl)) (by decide) (backOf (W := 0) (u_cha l Z a0 hw [] a (0 : Int32) (1 : Int32) (2 : Int32) [c0] gC c0 gF h0 n0 (by first | omega | exact own_ne (by omega) | exact own_le (by omega) | exact own_lt (by omega)) O SC hgC S SU SF rgF (by decide) (by decide) (by decide) (by decide) rfl rfl rfl (List.mem_of_getElem? (i := 0) rfl)) hZ (wd 64 rfl) (wd 3 rfl) (by decide) (by decide)) q5a q5c (g := (mkF m 29 #[.val (.ref a), .val (.int mx), .val (.int (0 : Int32)), .unset] [(.int (0 : Int32)), (.ref a)])) rfl (by rw [hml]; rfl) (Steps.refl _) (argsL := [(.int (0 : Int32))]) (rest := []) (lenOf pd__I_C rfl) rfl (by show 2 * 0 + _ ≤ _; exact Nat.le_of_eq rfl) (hb hby d5_29) (fun _ _ => ⟨rfl, e4, (by decide : 0 + 0 ≤ _), (by decide : 0 + 0 ≤ _)⟩)
    dsimp only [Pt.U, Pt.locs, Pt.cells, Pt.slots] at X5 l5 y5 z5 st5 hQ5
    subst l5 y5 z5
    obtain ⟨rfl, N5q, e5⟩ := hQ5
    have N5 := Fr.app N4 N5q
    refine go_tr (B := (T5.setTop (mkF m 32 #[.val (.ref a), .val (.int mx), .val (.int (0 : Int32)), .unset] [(.int c0)]))) (st5) ?_
    refine go_of (B := (T5.setTop (mkF m 33 #[.val (.ref a), .val (.int mx), .val (.int (0 : Int32)), .val (.int c0)] []))) (fun _ kk => XS.istoreN X5.here hx rfl (hb hby d5_32) rfl rfl kk) ?_
    refine nam_cls X5 hx hby ?_ ?_
    · intro hkt_0
      refine go_of (B := (T5.setTop (mkF m 21 #[.val (.ref a), .val (.int mx), .val (.int (1 : Int32)), .val (.int c0)] [(.ref a), (.int (1 : Int32))]))) (fun _ kk => XS.iinc X5.here hx rfl (hb hby d5_77) rfl rfl (XS.goto X5.here hx rfl (pc0 := 80) (pc' := 19) rfl (hb hby d5_80) (by decide) (by decide) (XS.iloadN X5.here hx rfl (hb hby d5_19) rfl (XS.aloadN X5.here hx rfl (hb hby d5_20) rfl rfl kk)))) ?_
      obtain ⟨cq6, kq6, q6a, q6b, q6c⟩ := isOf hZ e5 S.exa
      obtain ⟨_, _, ⟨T6, L6, k6, n6⟩, -, X6, ⟨Lc6, hQ6, l6, y6, z6⟩, st6⟩ := X5.virtualBack hx (y := MN10) (z := MN10) hown (mvT hZ (wd 50 rfl)) (mvT hZ (wd 51 rfl)) (notFace_of_selects (args := #[]) (mvT hZ (wd 53 rfl))) (mvT hZ (wd 53 rfl)) (mvT hZ (wd 52 rfl)) (by decide) (backOf (W := 1) (u_len l Z a0 hw [] a (1 : Int32) (2 : Int32) [c0] gC h0 n0 (by first | omega | exact own_ne (by omega) | exact own_le (by omega) | exact own_lt (by omega)) O SC hgC S (by decide)) hZ (wd 54 rfl) (wd 3 rfl) (by decide) (by decide)) q6a q6c (g := (mkF m 21 #[.val (.ref a), .val (.int mx), .val (.int (1 : Int32)), .val (.int c0)] [(.ref a), (.int (1 : Int32))])) rfl (by rw [hml]; rfl) (Steps.refl _) (argsL := []) (rest := [(.int (1 : Int32))]) (lenOf pd___I rfl) rfl (by show 2 * 0 + _ ≤ _; exact Nat.le_of_eq rfl) (hb hby d5_21) (fun _ _ => ⟨rfl, e5, (by decide : 0 + 0 ≤ _), (by decide : 0 + 0 ≤ _)⟩)
      dsimp only [Pt.U, Pt.locs, Pt.cells, Pt.slots] at X6 l6 y6 z6 st6 hQ6
      subst l6 y6 z6
      obtain ⟨rfl, N6q, e6⟩ := hQ6
      have N6 := Fr.app N5 N6q
      refine go_tr (B := (T6.setTop (mkF m 24 #[.val (.ref a), .val (.int mx), .val (.int (1 : Int32)), .val (.int c0)] [(.int (1 : Int32)), (.int (1 : Int32))]))) (st6) ?_
      refine go_of (B := (T6.setTop (mkF m 84 #[.val (.ref a), .val (.int mx), .val (.int (1 : Int32)), .val (.int c0)] [(.int (1 : Int32))]))) (fun _ kk => XS.icmpYes X6.here hx rfl (pc0 := 24) (pc' := 83) rfl (hb hby d5_24) rfl (flt (by decide : ¬ ((1 : Int32) < (1 : Int32)))).2.1 (by decide) (by decide) (XS.iconst X6.here hx rfl (hb hby d5_83) kk)) ?_
      refine go_end X6 (v := some (.int (nar .boolean (1 : Int32)))) (fun h => by rw [Bd.returns] at h; cases h) Bd.notSynchronized (by decide) (by decide) (Q := (Q_nam_1 Z a mx c0 gC gF h0 n0)) ?_ (fun fs hr => retN X6 hx (t := .boolean) Bd.returns (by simp) (hb hby d5_84) hr)
      unfold Q_nam_1
      try rw [e6]
      refine ⟨?_, N6, rfl⟩
      simp [own_nm, nar, hcc3, hkt_0]
    · intro hkf_0
      refine go_of (B := (T5.setTop (mkF m 76 #[.val (.ref a), .val (.int mx), .val (.int (0 : Int32)), .val (.int c0)] [(.int (0 : Int32))]))) (fun _ kk => XS.iconst X5.here hx rfl (hb hby d5_75) kk) ?_
      refine go_end X5 (v := some (.int (nar .boolean (0 : Int32)))) (fun h => by rw [Bd.returns] at h; cases h) Bd.notSynchronized (by decide) (by decide) (Q := (Q_nam_1 Z a mx c0 gC gF h0 n0)) ?_ (fun fs hr => retN X5 hx (t := .boolean) Bd.returns (by simp) (hb hby d5_76) hr)
      unfold Q_nam_1
      try rw [e5]
      refine ⟨?_, N5, rfl⟩
      simp [own_nm, nar, hcc3, hkf_0]
def Q_nam_2 (Z : State) (a : Addr) (mx : Int32) (c0 : Int32) (c1 : Int32) (gC : Int32) (gF : Value) (h0 : Heap) (n0 : Nat) (v : Option Value) (h : Heap) (L : List Loc) : Prop := v = some (.int (own_nm 2 mx [c0, c1])) ∧ Fr n0 L ∧ h = h0
theorem ef_nam_2 (m : MethodId) (a : Addr) (mx : Int32)  : entryFrame m #[(.ref a), (.int mx)] 4 = mkF m 0 #[.val (.ref a), .val (.int mx), .unset, .unset] [] := by first | (simp [entryFrame, mkF, argsToLocals, Value.category]; done) | rfl
theorem nam_2 (l : Launch) (Z : State) (a0 : Array Value) (hw : TW a0 Z) (ws : List Jvm.Cond) (a : Addr) (mx : Int32) (c0 : Int32) (c1 : Int32) (gC : Int32) (gF : Value) (h0 : Heap) (n0 : Nat) (Z0 : n0 ≤ h0.size) (O : Old Z n0 h0) (SC : Sta Z Z.heap "java/lang/String" "COMPACT_STRINGS" "Z" (.int gC)) (hgC : ¬ gC = (0 : Int32)) (S : StrU Z h0 a 2 4 [c0, c1]) (SU : US Z) (SF : Sta Z Z.heap "jdk/internal/util/Preconditions" "SIOOBE_FORMATTER" "Ljava/util/function/BiFunction;" gF) (rgF : gF.isRef = true) :
    own_MF l Z MN0 prog_38_method_2_code 4 (some .boolean) ws (own_R 5 0 0 66) #[(.ref a), (.int mx)] h0 (Q_nam_2 Z a mx c0 c1 gC gF h0 n0) := by
  have wd := @own_wd _ _ hw
  refine MetFree.of_bodySF (plainFor_of_name pn_com_example_libpubid_libpubid_store_Names) hisR ?_
  intro p e s m args below meth c s₁ Bd hml0 hP hK
  obtain ⟨rfl, hZ, hh⟩ := hP
  have hx := Bd.exec
  have hby := Bd.bytes
  have hml : c.maxLocals = 4 := hml0
  have hown : s.vm.findClass "com/example/libpubid/libpubid/store/Names" = some m.cls := findClass_of_methodNamed Bd.named
  have hnm := (name_of_methodNamed Bd.named Bd.method).1
  have X0 : Stand p l e (own_R 5 0 0 66) s m #[(.ref a), (.int mx)] below meth c s₁ [] 0 0 := Stand.of_body Bd
  have e0 : s₁.heap = h0 := by rw [← hh, Bd.state]; rfl
  have N0 := Fr.nil n0
  refine go_of (A := s₁.setTop (entryFrame m #[(.ref a), (.int mx)] 4)) (B := s₁.setTop (mkF m 0 #[.val (.ref a), .val (.int mx), .unset, .unset] [])) (fun _ kk' => castTop (ef_nam_2 m a mx) kk') ?_
  refine go_of (B := (s₁.setTop (mkF m 1 #[.val (.ref a), .val (.int mx), .unset, .unset] [(.ref a)]))) (fun _ kk => XS.aloadN X0.here hx rfl (hb hby d5_0) rfl rfl kk) ?_
  obtain ⟨cq1, kq1, q1a, q1b, q1c⟩ := isOf hZ e0 S.exa
  obtain ⟨_, _, ⟨T1, L1, k1, n1⟩, -, X1, ⟨Lc1, hQ1, l1, y1, z1⟩, st1⟩ := X0.virtualBack hx (y := MN8) (z := MN8) hown (mvT hZ (wd 31 rfl)) (mvT hZ (wd 32 rfl)) (notFace_of_selects (args := #[]) (mvT hZ (wd 34 rfl))) (mvT hZ (wd 34 rfl)) (mvT hZ (wd 33 rfl)) (by decide) (backOf (W := 0) (u_emp l Z a0 hw [] a (2 : Int32) (4 : Int32) [c0, c1] gC h0 n0 (by first | omega | exact own_ne (by omega) | exact own_le (by omega) | exact own_lt (by omega)) O SC hgC S ⟨by decide, by decide⟩) hZ (wd 35 rfl) (wd 3 rfl) (by decide) (by decide)) q1a q1c (g := (mkF m 1 #[.val (.ref a), .val (.int mx), .unset, .unset] [(.ref a)])) rfl (by rw [hml]; rfl) (Steps.refl _) (argsL := []) (rest := []) (lenOf pd___Z rfl) rfl (by show 2 * 0 + _ ≤ _; exact Nat.le_of_eq rfl) (hb hby d5_1) (fun _ _ => ⟨rfl, e0, (by decide : 0 + 0 ≤ _), (by decide : 0 + 0 ≤ _)⟩)
  dsimp only [Pt.U, Pt.locs, Pt.cells, Pt.slots] at X1 l1 y1 z1 st1 hQ1
  subst l1 y1 z1
  obtain ⟨rfl, N1q, e1⟩ := hQ1
  have N1 := Fr.app N0 N1q
  refine go_tr (B := (T1.setTop (mkF m 4 #[.val (.ref a), .val (.int mx), .unset, .unset] [(.int (0 : Int32))]))) (st1) ?_
  refine go_of (B := (T1.setTop (mkF m 8 #[.val (.ref a), .val (.int mx), .unset, .unset] [(.ref a)]))) (fun _ kk => XS.ifNo X1.here hx rfl (hb hby d5_4) rfl ((if0 _ _).trans (teq (by decide : (0 : Int32) = (0 : Int32))).2) (XS.aloadN X1.here hx rfl (hb hby d5_7) rfl rfl kk)) ?_
  obtain ⟨cq2, kq2, q2a, q2b, q2c⟩ := isOf hZ e1 S.exa
  obtain ⟨_, _, ⟨T2, L2, k2, n2⟩, -, X2, ⟨Lc2, hQ2, l2, y2, z2⟩, st2⟩ := X1.virtualBack hx (y := MN10) (z := MN10) hown (mvT hZ (wd 50 rfl)) (mvT hZ (wd 51 rfl)) (notFace_of_selects (args := #[]) (mvT hZ (wd 53 rfl))) (mvT hZ (wd 53 rfl)) (mvT hZ (wd 52 rfl)) (by decide) (backOf (W := 0) (u_len l Z a0 hw [] a (2 : Int32) (4 : Int32) [c0, c1] gC h0 n0 (by first | omega | exact own_ne (by omega) | exact own_le (by omega) | exact own_lt (by omega)) O SC hgC S (by decide)) hZ (wd 54 rfl) (wd 3 rfl) (by decide) (by decide)) q2a q2c (g := (mkF m 8 #[.val (.ref a), .val (.int mx), .unset, .unset] [(.ref a)])) rfl (by rw [hml]; rfl) (Steps.refl _) (argsL := []) (rest := []) (lenOf pd___I rfl) rfl (by show 2 * 0 + _ ≤ _; exact Nat.le_of_eq rfl) (hb hby d5_8) (fun _ _ => ⟨rfl, e1, (by decide : 0 + 0 ≤ _), (by decide : 0 + 0 ≤ _)⟩)
  dsimp only [Pt.U, Pt.locs, Pt.cells, Pt.slots] at X2 l2 y2 z2 st2 hQ2
  subst l2 y2 z2
  obtain ⟨rfl, N2q, e2⟩ := hQ2
  have N2 := Fr.app N1 N2q
  refine go_tr (B := (T2.setTop (mkF m 11 #[.val (.ref a), .val (.int mx), .unset, .unset] [(.int (2 : Int32))]))) (st2) ?_
  refine go_of (B := (T2.setTop (mkF m 12 #[.val (.ref a), .val (.int mx), .unset, .unset] [(.int mx), (.int (2 : Int32))]))) (fun _ kk => XS.iloadN X2.here hx rfl (hb hby d5_11) rfl kk) ?_
  by_cases hcc3 : mx < (2 : Int32)
  · refine go_of (B := (T2.setTop (mkF m 16 #[.val (.ref a), .val (.int mx), .unset, .unset] [(.int (0 : Int32))]))) (fun _ kk => XS.icmpNo X2.here hx rfl (hb hby d5_12) rfl (tlt hcc3).2.2.2 (XS.iconst X2.here hx rfl (hb hby d5_15) kk)) ?_
    refine go_end X2 (v := some (.int (nar .boolean (0 : Int32)))) (fun h => by rw [Bd.returns] at h; cases h) Bd.notSynchronized (by decide) (by decide) (Q := (Q_nam_2 Z a mx c0 c1 gC gF h0 n0)) ?_ (fun fs hr => retN X2 hx (t := .boolean) Bd.returns (by simp) (hb hby d5_16) hr)
    unfold Q_nam_2
    try rw [e2]
    refine ⟨?_, N2, rfl⟩
    simp [own_nm, nar, hcc3]
  · refine go_of (B := (T2.setTop (mkF m 21 #[.val (.ref a), .val (.int mx), .val (.int (0 : Int32)), .unset] [(.ref a), (.int (0 : Int32))]))) (fun _ kk => XS.icmpYes X2.here hx rfl (pc0 := 12) (pc' := 17) rfl (hb hby d5_12) rfl (flt hcc3).2.2.2 (by decide) (by decide) (XS.iconst X2.here hx rfl (hb hby d5_17) (XS.istoreN X2.here hx rfl (hb hby d5_18) rfl rfl (XS.iloadN X2.here hx rfl (hb hby d5_19) rfl (XS.aloadN X2.here hx rfl (hb hby d5_20) rfl rfl kk))))) ?_
    obtain ⟨cq4, kq4, q4a, q4b, q4c⟩ := isOf hZ e2 S.exa
    obtain ⟨_, _, ⟨T4, L4, k4, n4⟩, -, X4, ⟨Lc4, hQ4, l4, y4, z4⟩, st4⟩ := X2.virtualBack hx (y := MN10) (z := MN10) hown (mvT hZ (wd 50 rfl)) (mvT hZ (wd 51 rfl)) (notFace_of_selects (args := #[]) (mvT hZ (wd 53 rfl))) (mvT hZ (wd 53 rfl)) (mvT hZ (wd 52 rfl)) (by decide) (backOf (W := 1) (u_len l Z a0 hw [] a (2 : Int32) (4 : Int32) [c0, c1] gC h0 n0 (by first | omega | exact own_ne (by omega) | exact own_le (by omega) | exact own_lt (by omega)) O SC hgC S (by decide)) hZ (wd 54 rfl) (wd 3 rfl) (by decide) (by decide)) q4a q4c (g := (mkF m 21 #[.val (.ref a), .val (.int mx), .val (.int (0 : Int32)), .unset] [(.ref a), (.int (0 : Int32))])) rfl (by rw [hml]; rfl) (Steps.refl _) (argsL := []) (rest := [(.int (0 : Int32))]) (lenOf pd___I rfl) rfl (by show 2 * 0 + _ ≤ _; exact Nat.le_of_eq rfl) (hb hby d5_21) (fun _ _ => ⟨rfl, e2, (by decide : 0 + 0 ≤ _), (by decide : 0 + 0 ≤ _)⟩)
    dsimp only [Pt.U, Pt.locs, Pt.cells, Pt.slots] at X4 l4 y4 z4 st4 hQ4
    subst l4 y4 z4
    obtain ⟨rfl, N4q, e4⟩ := hQ4
    have N4 := Fr.app N2 N4q
    refine go_tr (B := (T4.setTop (mkF m 24 #[.val (.ref a), .val (.int mx), .val (.int (0 : Int32)), .unset] [(.int (2 : Int32)), (.int (0 : Int32))]))) (st4) ?_
    refine go_of (B := (T4.setTop (mkF m 29 #[.val (.ref a), .val (.int mx), .val (.int (0 : Int32)), .unset] [(.int (0 : Int32)), (.ref a)]))) (fun _ kk => XS.icmpNo X4.here hx rfl (hb hby d5_24) rfl (tlt (by decide : (0 : Int32) < (2 : Int32))).2.1 (XS.aloadN X4.here hx rfl (hb hby d5_27) rfl rfl (XS.iloadN X4.here hx rfl (hb hby d5_28) rfl kk))) ?_
    obtain ⟨cq5, kq5, q5a, q5b, q5c⟩ := isOf hZ e4 S.exa
    obtain ⟨_, _, ⟨T5, L5, k5, n5⟩, -, X5, ⟨Lc5, hQ5, l5, y5, z5⟩, st5⟩ := X4.virtualBack hx (y := MN5) (z := MN5) hown (mvT hZ (wd 60 rfl)) (mvT hZ (wd 61 rfl)) (notFace_of_selects (args := #[]) (mvT hZ (wd 63 rfl))) (mvT hZ (wd 63 rfl)) (mvT hZ (wd 62 rfl)) (by decide) (backOf (W := 0) (u_cha l Z a0 hw [] a (0 : Int32) (2 : Int32) (4 : Int32) [c0, c1] gC c0 gF h0 n0 (by first | omega | exact own_ne (by omega) | exact own_le (by omega) | exact own_lt (by omega)) O SC hgC S SU SF rgF (by decide) (by decide) (by decide) (by decide) rfl rfl rfl (List.mem_of_getElem? (i := 0) rfl)) hZ (wd 64 rfl) (wd 3 rfl) (by decide) (by decide)) q5a q5c (g := (mkF m 29 #[.val (.ref a), .val (.int mx), .val (.int (0 : Int32)), .unset] [(.int (0 : Int32)), (.ref a)])) rfl (by rw [hml]; rfl) (Steps.refl _) (argsL := [(.int (0 : Int32))]) (rest := []) (lenOf pd__I_C rfl) rfl (by show 2 * 0 + _ ≤ _; exact Nat.le_of_eq rfl) (hb hby d5_29) (fun _ _ => ⟨rfl, e4, (by decide : 0 + 0 ≤ _), (by decide : 0 + 0 ≤ _)⟩)
    dsimp only [Pt.U, Pt.locs, Pt.cells, Pt.slots] at X5 l5 y5 z5 st5 hQ5
    subst l5 y5 z5
    obtain ⟨rfl, N5q, e5⟩ := hQ5
    have N5 := Fr.app N4 N5q
    refine go_tr (B := (T5.setTop (mkF m 32 #[.val (.ref a), .val (.int mx), .val (.int (0 : Int32)), .unset] [(.int c0)]))) (st5) ?_
    refine go_of (B := (T5.setTop (mkF m 33 #[.val (.ref a), .val (.int mx), .val (.int (0 : Int32)), .val (.int c0)] []))) (fun _ kk => XS.istoreN X5.here hx rfl (hb hby d5_32) rfl rfl kk) ?_
    refine nam_cls X5 hx hby ?_ ?_
    · intro hkt_0
      refine go_of (B := (T5.setTop (mkF m 21 #[.val (.ref a), .val (.int mx), .val (.int (1 : Int32)), .val (.int c0)] [(.ref a), (.int (1 : Int32))]))) (fun _ kk => XS.iinc X5.here hx rfl (hb hby d5_77) rfl rfl (XS.goto X5.here hx rfl (pc0 := 80) (pc' := 19) rfl (hb hby d5_80) (by decide) (by decide) (XS.iloadN X5.here hx rfl (hb hby d5_19) rfl (XS.aloadN X5.here hx rfl (hb hby d5_20) rfl rfl kk)))) ?_
      obtain ⟨cq6, kq6, q6a, q6b, q6c⟩ := isOf hZ e5 S.exa
      obtain ⟨_, _, ⟨T6, L6, k6, n6⟩, -, X6, ⟨Lc6, hQ6, l6, y6, z6⟩, st6⟩ := X5.virtualBack hx (y := MN10) (z := MN10) hown (mvT hZ (wd 50 rfl)) (mvT hZ (wd 51 rfl)) (notFace_of_selects (args := #[]) (mvT hZ (wd 53 rfl))) (mvT hZ (wd 53 rfl)) (mvT hZ (wd 52 rfl)) (by decide) (backOf (W := 1) (u_len l Z a0 hw [] a (2 : Int32) (4 : Int32) [c0, c1] gC h0 n0 (by first | omega | exact own_ne (by omega) | exact own_le (by omega) | exact own_lt (by omega)) O SC hgC S (by decide)) hZ (wd 54 rfl) (wd 3 rfl) (by decide) (by decide)) q6a q6c (g := (mkF m 21 #[.val (.ref a), .val (.int mx), .val (.int (1 : Int32)), .val (.int c0)] [(.ref a), (.int (1 : Int32))])) rfl (by rw [hml]; rfl) (Steps.refl _) (argsL := []) (rest := [(.int (1 : Int32))]) (lenOf pd___I rfl) rfl (by show 2 * 0 + _ ≤ _; exact Nat.le_of_eq rfl) (hb hby d5_21) (fun _ _ => ⟨rfl, e5, (by decide : 0 + 0 ≤ _), (by decide : 0 + 0 ≤ _)⟩)
      dsimp only [Pt.U, Pt.locs, Pt.cells, Pt.slots] at X6 l6 y6 z6 st6 hQ6
      subst l6 y6 z6
      obtain ⟨rfl, N6q, e6⟩ := hQ6
      have N6 := Fr.app N5 N6q
      refine go_tr (B := (T6.setTop (mkF m 24 #[.val (.ref a), .val (.int mx), .val (.int (1 : Int32)), .val (.int c0)] [(.int (2 : Int32)), (.int (1 : Int32))]))) (st6) ?_
      refine go_of (B := (T6.setTop (mkF m 29 #[.val (.ref a), .val (.int mx), .val (.int (1 : Int32)), .val (.int c0)] [(.int (1 : Int32)), (.ref a)]))) (fun _ kk => XS.icmpNo X6.here hx rfl (hb hby d5_24) rfl (tlt (by decide : (1 : Int32) < (2 : Int32))).2.1 (XS.aloadN X6.here hx rfl (hb hby d5_27) rfl rfl (XS.iloadN X6.here hx rfl (hb hby d5_28) rfl kk))) ?_
      obtain ⟨cq7, kq7, q7a, q7b, q7c⟩ := isOf hZ e6 S.exa
      obtain ⟨_, _, ⟨T7, L7, k7, n7⟩, -, X7, ⟨Lc7, hQ7, l7, y7, z7⟩, st7⟩ := X6.virtualBack hx (y := MN5) (z := MN5) hown (mvT hZ (wd 60 rfl)) (mvT hZ (wd 61 rfl)) (notFace_of_selects (args := #[]) (mvT hZ (wd 63 rfl))) (mvT hZ (wd 63 rfl)) (mvT hZ (wd 62 rfl)) (by decide) (backOf (W := 0) (u_cha l Z a0 hw [] a (1 : Int32) (2 : Int32) (4 : Int32) [c0, c1] gC c1 gF h0 n0 (by first | omega | exact own_ne (by omega) | exact own_le (by omega) | exact own_lt (by omega)) O SC hgC S SU SF rgF (by decide) (by decide) (by decide) (by decide) rfl rfl rfl (List.mem_of_getElem? (i := 1) rfl)) hZ (wd 64 rfl) (wd 3 rfl) (by decide) (by decide)) q7a q7c (g := (mkF m 29 #[.val (.ref a), .val (.int mx), .val (.int (1 : Int32)), .val (.int c0)] [(.int (1 : Int32)), (.ref a)])) rfl (by rw [hml]; rfl) (Steps.refl _) (argsL := [(.int (1 : Int32))]) (rest := []) (lenOf pd__I_C rfl) rfl (by show 2 * 0 + _ ≤ _; exact Nat.le_of_eq rfl) (hb hby d5_29) (fun _ _ => ⟨rfl, e6, (by decide : 0 + 0 ≤ _), (by decide : 0 + 0 ≤ _)⟩)
      dsimp only [Pt.U, Pt.locs, Pt.cells, Pt.slots] at X7 l7 y7 z7 st7 hQ7
      subst l7 y7 z7
      obtain ⟨rfl, N7q, e7⟩ := hQ7
      have N7 := Fr.app N6 N7q
      refine go_tr (B := (T7.setTop (mkF m 32 #[.val (.ref a), .val (.int mx), .val (.int (1 : Int32)), .val (.int c0)] [(.int c1)]))) (st7) ?_
      refine go_of (B := (T7.setTop (mkF m 33 #[.val (.ref a), .val (.int mx), .val (.int (1 : Int32)), .val (.int c1)] []))) (fun _ kk => XS.istoreN X7.here hx rfl (hb hby d5_32) rfl rfl kk) ?_
      refine nam_cls X7 hx hby ?_ ?_
      · intro hkt_1
        refine go_of (B := (T7.setTop (mkF m 21 #[.val (.ref a), .val (.int mx), .val (.int (2 : Int32)), .val (.int c1)] [(.ref a), (.int (2 : Int32))]))) (fun _ kk => XS.iinc X7.here hx rfl (hb hby d5_77) rfl rfl (XS.goto X7.here hx rfl (pc0 := 80) (pc' := 19) rfl (hb hby d5_80) (by decide) (by decide) (XS.iloadN X7.here hx rfl (hb hby d5_19) rfl (XS.aloadN X7.here hx rfl (hb hby d5_20) rfl rfl kk)))) ?_
        obtain ⟨cq8, kq8, q8a, q8b, q8c⟩ := isOf hZ e7 S.exa
        obtain ⟨_, _, ⟨T8, L8, k8, n8⟩, -, X8, ⟨Lc8, hQ8, l8, y8, z8⟩, st8⟩ := X7.virtualBack hx (y := MN10) (z := MN10) hown (mvT hZ (wd 50 rfl)) (mvT hZ (wd 51 rfl)) (notFace_of_selects (args := #[]) (mvT hZ (wd 53 rfl))) (mvT hZ (wd 53 rfl)) (mvT hZ (wd 52 rfl)) (by decide) (backOf (W := 1) (u_len l Z a0 hw [] a (2 : Int32) (4 : Int32) [c0, c1] gC h0 n0 (by first | omega | exact own_ne (by omega) | exact own_le (by omega) | exact own_lt (by omega)) O SC hgC S (by decide)) hZ (wd 54 rfl) (wd 3 rfl) (by decide) (by decide)) q8a q8c (g := (mkF m 21 #[.val (.ref a), .val (.int mx), .val (.int (2 : Int32)), .val (.int c1)] [(.ref a), (.int (2 : Int32))])) rfl (by rw [hml]; rfl) (Steps.refl _) (argsL := []) (rest := [(.int (2 : Int32))]) (lenOf pd___I rfl) rfl (by show 2 * 0 + _ ≤ _; exact Nat.le_of_eq rfl) (hb hby d5_21) (fun _ _ => ⟨rfl, e7, (by decide : 0 + 0 ≤ _), (by decide : 0 + 0 ≤ _)⟩)
        dsimp only [Pt.U, Pt.locs, Pt.cells, Pt.slots] at X8 l8 y8 z8 st8 hQ8
        subst l8 y8 z8
        obtain ⟨rfl, N8q, e8⟩ := hQ8
        have N8 := Fr.app N7 N8q
        refine go_tr (B := (T8.setTop (mkF m 24 #[.val (.ref a), .val (.int mx), .val (.int (2 : Int32)), .val (.int c1)] [(.int (2 : Int32)), (.int (2 : Int32))]))) (st8) ?_
        refine go_of (B := (T8.setTop (mkF m 84 #[.val (.ref a), .val (.int mx), .val (.int (2 : Int32)), .val (.int c1)] [(.int (1 : Int32))]))) (fun _ kk => XS.icmpYes X8.here hx rfl (pc0 := 24) (pc' := 83) rfl (hb hby d5_24) rfl (flt (by decide : ¬ ((2 : Int32) < (2 : Int32)))).2.1 (by decide) (by decide) (XS.iconst X8.here hx rfl (hb hby d5_83) kk)) ?_
        refine go_end X8 (v := some (.int (nar .boolean (1 : Int32)))) (fun h => by rw [Bd.returns] at h; cases h) Bd.notSynchronized (by decide) (by decide) (Q := (Q_nam_2 Z a mx c0 c1 gC gF h0 n0)) ?_ (fun fs hr => retN X8 hx (t := .boolean) Bd.returns (by simp) (hb hby d5_84) hr)
        unfold Q_nam_2
        try rw [e8]
        refine ⟨?_, N8, rfl⟩
        simp [own_nm, nar, hcc3, hkt_0, hkt_1]
      · intro hkf_1
        refine go_of (B := (T7.setTop (mkF m 76 #[.val (.ref a), .val (.int mx), .val (.int (1 : Int32)), .val (.int c1)] [(.int (0 : Int32))]))) (fun _ kk => XS.iconst X7.here hx rfl (hb hby d5_75) kk) ?_
        refine go_end X7 (v := some (.int (nar .boolean (0 : Int32)))) (fun h => by rw [Bd.returns] at h; cases h) Bd.notSynchronized (by decide) (by decide) (Q := (Q_nam_2 Z a mx c0 c1 gC gF h0 n0)) ?_ (fun fs hr => retN X7 hx (t := .boolean) Bd.returns (by simp) (hb hby d5_76) hr)
        unfold Q_nam_2
        try rw [e7]
        refine ⟨?_, N7, rfl⟩
        simp [own_nm, nar, hcc3, hkt_0, hkf_1]
    · intro hkf_0
      refine go_of (B := (T5.setTop (mkF m 76 #[.val (.ref a), .val (.int mx), .val (.int (0 : Int32)), .val (.int c0)] [(.int (0 : Int32))]))) (fun _ kk => XS.iconst X5.here hx rfl (hb hby d5_75) kk) ?_
      refine go_end X5 (v := some (.int (nar .boolean (0 : Int32)))) (fun h => by rw [Bd.returns] at h; cases h) Bd.notSynchronized (by decide) (by decide) (Q := (Q_nam_2 Z a mx c0 c1 gC gF h0 n0)) ?_ (fun fs hr => retN X5 hx (t := .boolean) Bd.returns (by simp) (hb hby d5_76) hr)
      unfold Q_nam_2
      try rw [e5]
      refine ⟨?_, N5, rfl⟩
      simp [own_nm, nar, hcc3, hkf_0]
def Q_nam_3 (Z : State) (a : Addr) (mx : Int32) (c0 : Int32) (c1 : Int32) (c2 : Int32) (gC : Int32) (gF : Value) (h0 : Heap) (n0 : Nat) (v : Option Value) (h : Heap) (L : List Loc) : Prop := v = some (.int (own_nm 3 mx [c0, c1, c2])) ∧ Fr n0 L ∧ h = h0
theorem ef_nam_3 (m : MethodId) (a : Addr) (mx : Int32)  : entryFrame m #[(.ref a), (.int mx)] 4 = mkF m 0 #[.val (.ref a), .val (.int mx), .unset, .unset] [] := by first | (simp [entryFrame, mkF, argsToLocals, Value.category]; done) | rfl
theorem nam_3 (l : Launch) (Z : State) (a0 : Array Value) (hw : TW a0 Z) (ws : List Jvm.Cond) (a : Addr) (mx : Int32) (c0 : Int32) (c1 : Int32) (c2 : Int32) (gC : Int32) (gF : Value) (h0 : Heap) (n0 : Nat) (Z0 : n0 ≤ h0.size) (O : Old Z n0 h0) (SC : Sta Z Z.heap "java/lang/String" "COMPACT_STRINGS" "Z" (.int gC)) (hgC : ¬ gC = (0 : Int32)) (S : StrU Z h0 a 3 6 [c0, c1, c2]) (SU : US Z) (SF : Sta Z Z.heap "jdk/internal/util/Preconditions" "SIOOBE_FORMATTER" "Ljava/util/function/BiFunction;" gF) (rgF : gF.isRef = true) :
    own_MF l Z MN0 prog_38_method_2_code 4 (some .boolean) ws (own_R 5 0 0 66) #[(.ref a), (.int mx)] h0 (Q_nam_3 Z a mx c0 c1 c2 gC gF h0 n0) := by
  have wd := @own_wd _ _ hw
  refine MetFree.of_bodySF (plainFor_of_name pn_com_example_libpubid_libpubid_store_Names) hisR ?_
  intro p e s m args below meth c s₁ Bd hml0 hP hK
  obtain ⟨rfl, hZ, hh⟩ := hP
  have hx := Bd.exec
  have hby := Bd.bytes
  have hml : c.maxLocals = 4 := hml0
  have hown : s.vm.findClass "com/example/libpubid/libpubid/store/Names" = some m.cls := findClass_of_methodNamed Bd.named
  have hnm := (name_of_methodNamed Bd.named Bd.method).1
  have X0 : Stand p l e (own_R 5 0 0 66) s m #[(.ref a), (.int mx)] below meth c s₁ [] 0 0 := Stand.of_body Bd
  have e0 : s₁.heap = h0 := by rw [← hh, Bd.state]; rfl
  have N0 := Fr.nil n0
  refine go_of (A := s₁.setTop (entryFrame m #[(.ref a), (.int mx)] 4)) (B := s₁.setTop (mkF m 0 #[.val (.ref a), .val (.int mx), .unset, .unset] [])) (fun _ kk' => castTop (ef_nam_3 m a mx) kk') ?_
  refine go_of (B := (s₁.setTop (mkF m 1 #[.val (.ref a), .val (.int mx), .unset, .unset] [(.ref a)]))) (fun _ kk => XS.aloadN X0.here hx rfl (hb hby d5_0) rfl rfl kk) ?_
  obtain ⟨cq1, kq1, q1a, q1b, q1c⟩ := isOf hZ e0 S.exa
  obtain ⟨_, _, ⟨T1, L1, k1, n1⟩, -, X1, ⟨Lc1, hQ1, l1, y1, z1⟩, st1⟩ := X0.virtualBack hx (y := MN8) (z := MN8) hown (mvT hZ (wd 31 rfl)) (mvT hZ (wd 32 rfl)) (notFace_of_selects (args := #[]) (mvT hZ (wd 34 rfl))) (mvT hZ (wd 34 rfl)) (mvT hZ (wd 33 rfl)) (by decide) (backOf (W := 0) (u_emp l Z a0 hw [] a (3 : Int32) (6 : Int32) [c0, c1, c2] gC h0 n0 (by first | omega | exact own_ne (by omega) | exact own_le (by omega) | exact own_lt (by omega)) O SC hgC S ⟨by decide, by decide⟩) hZ (wd 35 rfl) (wd 3 rfl) (by decide) (by decide)) q1a q1c (g := (mkF m 1 #[.val (.ref a), .val (.int mx), .unset, .unset] [(.ref a)])) rfl (by rw [hml]; rfl) (Steps.refl _) (argsL := []) (rest := []) (lenOf pd___Z rfl) rfl (by show 2 * 0 + _ ≤ _; exact Nat.le_of_eq rfl) (hb hby d5_1) (fun _ _ => ⟨rfl, e0, (by decide : 0 + 0 ≤ _), (by decide : 0 + 0 ≤ _)⟩)
  dsimp only [Pt.U, Pt.locs, Pt.cells, Pt.slots] at X1 l1 y1 z1 st1 hQ1
  subst l1 y1 z1
  obtain ⟨rfl, N1q, e1⟩ := hQ1
  have N1 := Fr.app N0 N1q
  refine go_tr (B := (T1.setTop (mkF m 4 #[.val (.ref a), .val (.int mx), .unset, .unset] [(.int (0 : Int32))]))) (st1) ?_
  refine go_of (B := (T1.setTop (mkF m 8 #[.val (.ref a), .val (.int mx), .unset, .unset] [(.ref a)]))) (fun _ kk => XS.ifNo X1.here hx rfl (hb hby d5_4) rfl ((if0 _ _).trans (teq (by decide : (0 : Int32) = (0 : Int32))).2) (XS.aloadN X1.here hx rfl (hb hby d5_7) rfl rfl kk)) ?_
  obtain ⟨cq2, kq2, q2a, q2b, q2c⟩ := isOf hZ e1 S.exa
  obtain ⟨_, _, ⟨T2, L2, k2, n2⟩, -, X2, ⟨Lc2, hQ2, l2, y2, z2⟩, st2⟩ := X1.virtualBack hx (y := MN10) (z := MN10) hown (mvT hZ (wd 50 rfl)) (mvT hZ (wd 51 rfl)) (notFace_of_selects (args := #[]) (mvT hZ (wd 53 rfl))) (mvT hZ (wd 53 rfl)) (mvT hZ (wd 52 rfl)) (by decide) (backOf (W := 0) (u_len l Z a0 hw [] a (3 : Int32) (6 : Int32) [c0, c1, c2] gC h0 n0 (by first | omega | exact own_ne (by omega) | exact own_le (by omega) | exact own_lt (by omega)) O SC hgC S (by decide)) hZ (wd 54 rfl) (wd 3 rfl) (by decide) (by decide)) q2a q2c (g := (mkF m 8 #[.val (.ref a), .val (.int mx), .unset, .unset] [(.ref a)])) rfl (by rw [hml]; rfl) (Steps.refl _) (argsL := []) (rest := []) (lenOf pd___I rfl) rfl (by show 2 * 0 + _ ≤ _; exact Nat.le_of_eq rfl) (hb hby d5_8) (fun _ _ => ⟨rfl, e1, (by decide : 0 + 0 ≤ _), (by decide : 0 + 0 ≤ _)⟩)
  dsimp only [Pt.U, Pt.locs, Pt.cells, Pt.slots] at X2 l2 y2 z2 st2 hQ2
  subst l2 y2 z2
  obtain ⟨rfl, N2q, e2⟩ := hQ2
  have N2 := Fr.app N1 N2q
  refine go_tr (B := (T2.setTop (mkF m 11 #[.val (.ref a), .val (.int mx), .unset, .unset] [(.int (3 : Int32))]))) (st2) ?_
  refine go_of (B := (T2.setTop (mkF m 12 #[.val (.ref a), .val (.int mx), .unset, .unset] [(.int mx), (.int (3 : Int32))]))) (fun _ kk => XS.iloadN X2.here hx rfl (hb hby d5_11) rfl kk) ?_
  by_cases hcc3 : mx < (3 : Int32)
  · refine go_of (B := (T2.setTop (mkF m 16 #[.val (.ref a), .val (.int mx), .unset, .unset] [(.int (0 : Int32))]))) (fun _ kk => XS.icmpNo X2.here hx rfl (hb hby d5_12) rfl (tlt hcc3).2.2.2 (XS.iconst X2.here hx rfl (hb hby d5_15) kk)) ?_
    refine go_end X2 (v := some (.int (nar .boolean (0 : Int32)))) (fun h => by rw [Bd.returns] at h; cases h) Bd.notSynchronized (by decide) (by decide) (Q := (Q_nam_3 Z a mx c0 c1 c2 gC gF h0 n0)) ?_ (fun fs hr => retN X2 hx (t := .boolean) Bd.returns (by simp) (hb hby d5_16) hr)
    unfold Q_nam_3
    try rw [e2]
    refine ⟨?_, N2, rfl⟩
    simp [own_nm, nar, hcc3]
  · refine go_of (B := (T2.setTop (mkF m 21 #[.val (.ref a), .val (.int mx), .val (.int (0 : Int32)), .unset] [(.ref a), (.int (0 : Int32))]))) (fun _ kk => XS.icmpYes X2.here hx rfl (pc0 := 12) (pc' := 17) rfl (hb hby d5_12) rfl (flt hcc3).2.2.2 (by decide) (by decide) (XS.iconst X2.here hx rfl (hb hby d5_17) (XS.istoreN X2.here hx rfl (hb hby d5_18) rfl rfl (XS.iloadN X2.here hx rfl (hb hby d5_19) rfl (XS.aloadN X2.here hx rfl (hb hby d5_20) rfl rfl kk))))) ?_
    obtain ⟨cq4, kq4, q4a, q4b, q4c⟩ := isOf hZ e2 S.exa
    obtain ⟨_, _, ⟨T4, L4, k4, n4⟩, -, X4, ⟨Lc4, hQ4, l4, y4, z4⟩, st4⟩ := X2.virtualBack hx (y := MN10) (z := MN10) hown (mvT hZ (wd 50 rfl)) (mvT hZ (wd 51 rfl)) (notFace_of_selects (args := #[]) (mvT hZ (wd 53 rfl))) (mvT hZ (wd 53 rfl)) (mvT hZ (wd 52 rfl)) (by decide) (backOf (W := 1) (u_len l Z a0 hw [] a (3 : Int32) (6 : Int32) [c0, c1, c2] gC h0 n0 (by first | omega | exact own_ne (by omega) | exact own_le (by omega) | exact own_lt (by omega)) O SC hgC S (by decide)) hZ (wd 54 rfl) (wd 3 rfl) (by decide) (by decide)) q4a q4c (g := (mkF m 21 #[.val (.ref a), .val (.int mx), .val (.int (0 : Int32)), .unset] [(.ref a), (.int (0 : Int32))])) rfl (by rw [hml]; rfl) (Steps.refl _) (argsL := []) (rest := [(.int (0 : Int32))]) (lenOf pd___I rfl) rfl (by show 2 * 0 + _ ≤ _; exact Nat.le_of_eq rfl) (hb hby d5_21) (fun _ _ => ⟨rfl, e2, (by decide : 0 + 0 ≤ _), (by decide : 0 + 0 ≤ _)⟩)
    dsimp only [Pt.U, Pt.locs, Pt.cells, Pt.slots] at X4 l4 y4 z4 st4 hQ4
    subst l4 y4 z4
    obtain ⟨rfl, N4q, e4⟩ := hQ4
    have N4 := Fr.app N2 N4q
    refine go_tr (B := (T4.setTop (mkF m 24 #[.val (.ref a), .val (.int mx), .val (.int (0 : Int32)), .unset] [(.int (3 : Int32)), (.int (0 : Int32))]))) (st4) ?_
    refine go_of (B := (T4.setTop (mkF m 29 #[.val (.ref a), .val (.int mx), .val (.int (0 : Int32)), .unset] [(.int (0 : Int32)), (.ref a)]))) (fun _ kk => XS.icmpNo X4.here hx rfl (hb hby d5_24) rfl (tlt (by decide : (0 : Int32) < (3 : Int32))).2.1 (XS.aloadN X4.here hx rfl (hb hby d5_27) rfl rfl (XS.iloadN X4.here hx rfl (hb hby d5_28) rfl kk))) ?_
    obtain ⟨cq5, kq5, q5a, q5b, q5c⟩ := isOf hZ e4 S.exa
    obtain ⟨_, _, ⟨T5, L5, k5, n5⟩, -, X5, ⟨Lc5, hQ5, l5, y5, z5⟩, st5⟩ := X4.virtualBack hx (y := MN5) (z := MN5) hown (mvT hZ (wd 60 rfl)) (mvT hZ (wd 61 rfl)) (notFace_of_selects (args := #[]) (mvT hZ (wd 63 rfl))) (mvT hZ (wd 63 rfl)) (mvT hZ (wd 62 rfl)) (by decide) (backOf (W := 0) (u_cha l Z a0 hw [] a (0 : Int32) (3 : Int32) (6 : Int32) [c0, c1, c2] gC c0 gF h0 n0 (by first | omega | exact own_ne (by omega) | exact own_le (by omega) | exact own_lt (by omega)) O SC hgC S SU SF rgF (by decide) (by decide) (by decide) (by decide) rfl rfl rfl (List.mem_of_getElem? (i := 0) rfl)) hZ (wd 64 rfl) (wd 3 rfl) (by decide) (by decide)) q5a q5c (g := (mkF m 29 #[.val (.ref a), .val (.int mx), .val (.int (0 : Int32)), .unset] [(.int (0 : Int32)), (.ref a)])) rfl (by rw [hml]; rfl) (Steps.refl _) (argsL := [(.int (0 : Int32))]) (rest := []) (lenOf pd__I_C rfl) rfl (by show 2 * 0 + _ ≤ _; exact Nat.le_of_eq rfl) (hb hby d5_29) (fun _ _ => ⟨rfl, e4, (by decide : 0 + 0 ≤ _), (by decide : 0 + 0 ≤ _)⟩)
    dsimp only [Pt.U, Pt.locs, Pt.cells, Pt.slots] at X5 l5 y5 z5 st5 hQ5
    subst l5 y5 z5
    obtain ⟨rfl, N5q, e5⟩ := hQ5
    have N5 := Fr.app N4 N5q
    refine go_tr (B := (T5.setTop (mkF m 32 #[.val (.ref a), .val (.int mx), .val (.int (0 : Int32)), .unset] [(.int c0)]))) (st5) ?_
    refine go_of (B := (T5.setTop (mkF m 33 #[.val (.ref a), .val (.int mx), .val (.int (0 : Int32)), .val (.int c0)] []))) (fun _ kk => XS.istoreN X5.here hx rfl (hb hby d5_32) rfl rfl kk) ?_
    refine nam_cls X5 hx hby ?_ ?_
    · intro hkt_0
      refine go_of (B := (T5.setTop (mkF m 21 #[.val (.ref a), .val (.int mx), .val (.int (1 : Int32)), .val (.int c0)] [(.ref a), (.int (1 : Int32))]))) (fun _ kk => XS.iinc X5.here hx rfl (hb hby d5_77) rfl rfl (XS.goto X5.here hx rfl (pc0 := 80) (pc' := 19) rfl (hb hby d5_80) (by decide) (by decide) (XS.iloadN X5.here hx rfl (hb hby d5_19) rfl (XS.aloadN X5.here hx rfl (hb hby d5_20) rfl rfl kk)))) ?_
      obtain ⟨cq6, kq6, q6a, q6b, q6c⟩ := isOf hZ e5 S.exa
      obtain ⟨_, _, ⟨T6, L6, k6, n6⟩, -, X6, ⟨Lc6, hQ6, l6, y6, z6⟩, st6⟩ := X5.virtualBack hx (y := MN10) (z := MN10) hown (mvT hZ (wd 50 rfl)) (mvT hZ (wd 51 rfl)) (notFace_of_selects (args := #[]) (mvT hZ (wd 53 rfl))) (mvT hZ (wd 53 rfl)) (mvT hZ (wd 52 rfl)) (by decide) (backOf (W := 1) (u_len l Z a0 hw [] a (3 : Int32) (6 : Int32) [c0, c1, c2] gC h0 n0 (by first | omega | exact own_ne (by omega) | exact own_le (by omega) | exact own_lt (by omega)) O SC hgC S (by decide)) hZ (wd 54 rfl) (wd 3 rfl) (by decide) (by decide)) q6a q6c (g := (mkF m 21 #[.val (.ref a), .val (.int mx), .val (.int (1 : Int32)), .val (.int c0)] [(.ref a), (.int (1 : Int32))])) rfl (by rw [hml]; rfl) (Steps.refl _) (argsL := []) (rest := [(.int (1 : Int32))]) (lenOf pd___I rfl) rfl (by show 2 * 0 + _ ≤ _; exact Nat.le_of_eq rfl) (hb hby d5_21) (fun _ _ => ⟨rfl, e5, (by decide : 0 + 0 ≤ _), (by decide : 0 + 0 ≤ _)⟩)
      dsimp only [Pt.U, Pt.locs, Pt.cells, Pt.slots] at X6 l6 y6 z6 st6 hQ6
      subst l6 y6 z6
      obtain ⟨rfl, N6q, e6⟩ := hQ6
      have N6 := Fr.app N5 N6q
      refine go_tr (B := (T6.setTop (mkF m 24 #[.val (.ref a), .val (.int mx), .val (.int (1 : Int32)), .val (.int c0)] [(.int (3 : Int32)), (.int (1 : Int32))]))) (st6) ?_
      refine go_of (B := (T6.setTop (mkF m 29 #[.val (.ref a), .val (.int mx), .val (.int (1 : Int32)), .val (.int c0)] [(.int (1 : Int32)), (.ref a)]))) (fun _ kk => XS.icmpNo X6.here hx rfl (hb hby d5_24) rfl (tlt (by decide : (1 : Int32) < (3 : Int32))).2.1 (XS.aloadN X6.here hx rfl (hb hby d5_27) rfl rfl (XS.iloadN X6.here hx rfl (hb hby d5_28) rfl kk))) ?_
      obtain ⟨cq7, kq7, q7a, q7b, q7c⟩ := isOf hZ e6 S.exa
      obtain ⟨_, _, ⟨T7, L7, k7, n7⟩, -, X7, ⟨Lc7, hQ7, l7, y7, z7⟩, st7⟩ := X6.virtualBack hx (y := MN5) (z := MN5) hown (mvT hZ (wd 60 rfl)) (mvT hZ (wd 61 rfl)) (notFace_of_selects (args := #[]) (mvT hZ (wd 63 rfl))) (mvT hZ (wd 63 rfl)) (mvT hZ (wd 62 rfl)) (by decide) (backOf (W := 0) (u_cha l Z a0 hw [] a (1 : Int32) (3 : Int32) (6 : Int32) [c0, c1, c2] gC c1 gF h0 n0 (by first | omega | exact own_ne (by omega) | exact own_le (by omega) | exact own_lt (by omega)) O SC hgC S SU SF rgF (by decide) (by decide) (by decide) (by decide) rfl rfl rfl (List.mem_of_getElem? (i := 1) rfl)) hZ (wd 64 rfl) (wd 3 rfl) (by decide) (by decide)) q7a q7c (g := (mkF m 29 #[.val (.ref a), .val (.int mx), .val (.int (1 : Int32)), .val (.int c0)] [(.int (1 : Int32)), (.ref a)])) rfl (by rw [hml]; rfl) (Steps.refl _) (argsL := [(.int (1 : Int32))]) (rest := []) (lenOf pd__I_C rfl) rfl (by show 2 * 0 + _ ≤ _; exact Nat.le_of_eq rfl) (hb hby d5_29) (fun _ _ => ⟨rfl, e6, (by decide : 0 + 0 ≤ _), (by decide : 0 + 0 ≤ _)⟩)
      dsimp only [Pt.U, Pt.locs, Pt.cells, Pt.slots] at X7 l7 y7 z7 st7 hQ7
      subst l7 y7 z7
      obtain ⟨rfl, N7q, e7⟩ := hQ7
      have N7 := Fr.app N6 N7q
      refine go_tr (B := (T7.setTop (mkF m 32 #[.val (.ref a), .val (.int mx), .val (.int (1 : Int32)), .val (.int c0)] [(.int c1)]))) (st7) ?_
      refine go_of (B := (T7.setTop (mkF m 33 #[.val (.ref a), .val (.int mx), .val (.int (1 : Int32)), .val (.int c1)] []))) (fun _ kk => XS.istoreN X7.here hx rfl (hb hby d5_32) rfl rfl kk) ?_
      refine nam_cls X7 hx hby ?_ ?_
      · intro hkt_1
        refine go_of (B := (T7.setTop (mkF m 21 #[.val (.ref a), .val (.int mx), .val (.int (2 : Int32)), .val (.int c1)] [(.ref a), (.int (2 : Int32))]))) (fun _ kk => XS.iinc X7.here hx rfl (hb hby d5_77) rfl rfl (XS.goto X7.here hx rfl (pc0 := 80) (pc' := 19) rfl (hb hby d5_80) (by decide) (by decide) (XS.iloadN X7.here hx rfl (hb hby d5_19) rfl (XS.aloadN X7.here hx rfl (hb hby d5_20) rfl rfl kk)))) ?_
        obtain ⟨cq8, kq8, q8a, q8b, q8c⟩ := isOf hZ e7 S.exa
        obtain ⟨_, _, ⟨T8, L8, k8, n8⟩, -, X8, ⟨Lc8, hQ8, l8, y8, z8⟩, st8⟩ := X7.virtualBack hx (y := MN10) (z := MN10) hown (mvT hZ (wd 50 rfl)) (mvT hZ (wd 51 rfl)) (notFace_of_selects (args := #[]) (mvT hZ (wd 53 rfl))) (mvT hZ (wd 53 rfl)) (mvT hZ (wd 52 rfl)) (by decide) (backOf (W := 1) (u_len l Z a0 hw [] a (3 : Int32) (6 : Int32) [c0, c1, c2] gC h0 n0 (by first | omega | exact own_ne (by omega) | exact own_le (by omega) | exact own_lt (by omega)) O SC hgC S (by decide)) hZ (wd 54 rfl) (wd 3 rfl) (by decide) (by decide)) q8a q8c (g := (mkF m 21 #[.val (.ref a), .val (.int mx), .val (.int (2 : Int32)), .val (.int c1)] [(.ref a), (.int (2 : Int32))])) rfl (by rw [hml]; rfl) (Steps.refl _) (argsL := []) (rest := [(.int (2 : Int32))]) (lenOf pd___I rfl) rfl (by show 2 * 0 + _ ≤ _; exact Nat.le_of_eq rfl) (hb hby d5_21) (fun _ _ => ⟨rfl, e7, (by decide : 0 + 0 ≤ _), (by decide : 0 + 0 ≤ _)⟩)
        dsimp only [Pt.U, Pt.locs, Pt.cells, Pt.slots] at X8 l8 y8 z8 st8 hQ8
        subst l8 y8 z8
        obtain ⟨rfl, N8q, e8⟩ := hQ8
        have N8 := Fr.app N7 N8q
        refine go_tr (B := (T8.setTop (mkF m 24 #[.val (.ref a), .val (.int mx), .val (.int (2 : Int32)), .val (.int c1)] [(.int (3 : Int32)), (.int (2 : Int32))]))) (st8) ?_
        refine go_of (B := (T8.setTop (mkF m 29 #[.val (.ref a), .val (.int mx), .val (.int (2 : Int32)), .val (.int c1)] [(.int (2 : Int32)), (.ref a)]))) (fun _ kk => XS.icmpNo X8.here hx rfl (hb hby d5_24) rfl (tlt (by decide : (2 : Int32) < (3 : Int32))).2.1 (XS.aloadN X8.here hx rfl (hb hby d5_27) rfl rfl (XS.iloadN X8.here hx rfl (hb hby d5_28) rfl kk))) ?_
        obtain ⟨cq9, kq9, q9a, q9b, q9c⟩ := isOf hZ e8 S.exa
        obtain ⟨_, _, ⟨T9, L9, k9, n9⟩, -, X9, ⟨Lc9, hQ9, l9, y9, z9⟩, st9⟩ := X8.virtualBack hx (y := MN5) (z := MN5) hown (mvT hZ (wd 60 rfl)) (mvT hZ (wd 61 rfl)) (notFace_of_selects (args := #[]) (mvT hZ (wd 63 rfl))) (mvT hZ (wd 63 rfl)) (mvT hZ (wd 62 rfl)) (by decide) (backOf (W := 0) (u_cha l Z a0 hw [] a (2 : Int32) (3 : Int32) (6 : Int32) [c0, c1, c2] gC c2 gF h0 n0 (by first | omega | exact own_ne (by omega) | exact own_le (by omega) | exact own_lt (by omega)) O SC hgC S SU SF rgF (by decide) (by decide) (by decide) (by decide) rfl rfl rfl (List.mem_of_getElem? (i := 2) rfl)) hZ (wd 64 rfl) (wd 3 rfl) (by decide) (by decide)) q9a q9c (g := (mkF m 29 #[.val (.ref a), .val (.int mx), .val (.int (2 : Int32)), .val (.int c1)] [(.int (2 : Int32)), (.ref a)])) rfl (by rw [hml]; rfl) (Steps.refl _) (argsL := [(.int (2 : Int32))]) (rest := []) (lenOf pd__I_C rfl) rfl (by show 2 * 0 + _ ≤ _; exact Nat.le_of_eq rfl) (hb hby d5_29) (fun _ _ => ⟨rfl, e8, (by decide : 0 + 0 ≤ _), (by decide : 0 + 0 ≤ _)⟩)
        dsimp only [Pt.U, Pt.locs, Pt.cells, Pt.slots] at X9 l9 y9 z9 st9 hQ9
        subst l9 y9 z9
        obtain ⟨rfl, N9q, e9⟩ := hQ9
        have N9 := Fr.app N8 N9q
        refine go_tr (B := (T9.setTop (mkF m 32 #[.val (.ref a), .val (.int mx), .val (.int (2 : Int32)), .val (.int c1)] [(.int c2)]))) (st9) ?_
        refine go_of (B := (T9.setTop (mkF m 33 #[.val (.ref a), .val (.int mx), .val (.int (2 : Int32)), .val (.int c2)] []))) (fun _ kk => XS.istoreN X9.here hx rfl (hb hby d5_32) rfl rfl kk) ?_
        refine nam_cls X9 hx hby ?_ ?_
        · intro hkt_2
          refine go_of (B := (T9.setTop (mkF m 21 #[.val (.ref a), .val (.int mx), .val (.int (3 : Int32)), .val (.int c2)] [(.ref a), (.int (3 : Int32))]))) (fun _ kk => XS.iinc X9.here hx rfl (hb hby d5_77) rfl rfl (XS.goto X9.here hx rfl (pc0 := 80) (pc' := 19) rfl (hb hby d5_80) (by decide) (by decide) (XS.iloadN X9.here hx rfl (hb hby d5_19) rfl (XS.aloadN X9.here hx rfl (hb hby d5_20) rfl rfl kk)))) ?_
          obtain ⟨cq10, kq10, q10a, q10b, q10c⟩ := isOf hZ e9 S.exa
          obtain ⟨_, _, ⟨T10, L10, k10, n10⟩, -, X10, ⟨Lc10, hQ10, l10, y10, z10⟩, st10⟩ := X9.virtualBack hx (y := MN10) (z := MN10) hown (mvT hZ (wd 50 rfl)) (mvT hZ (wd 51 rfl)) (notFace_of_selects (args := #[]) (mvT hZ (wd 53 rfl))) (mvT hZ (wd 53 rfl)) (mvT hZ (wd 52 rfl)) (by decide) (backOf (W := 1) (u_len l Z a0 hw [] a (3 : Int32) (6 : Int32) [c0, c1, c2] gC h0 n0 (by first | omega | exact own_ne (by omega) | exact own_le (by omega) | exact own_lt (by omega)) O SC hgC S (by decide)) hZ (wd 54 rfl) (wd 3 rfl) (by decide) (by decide)) q10a q10c (g := (mkF m 21 #[.val (.ref a), .val (.int mx), .val (.int (3 : Int32)), .val (.int c2)] [(.ref a), (.int (3 : Int32))])) rfl (by rw [hml]; rfl) (Steps.refl _) (argsL := []) (rest := [(.int (3 : Int32))]) (lenOf pd___I rfl) rfl (by show 2 * 0 + _ ≤ _; exact Nat.le_of_eq rfl) (hb hby d5_21) (fun _ _ => ⟨rfl, e9, (by decide : 0 + 0 ≤ _), (by decide : 0 + 0 ≤ _)⟩)
          dsimp only [Pt.U, Pt.locs, Pt.cells, Pt.slots] at X10 l10 y10 z10 st10 hQ10
          subst l10 y10 z10
          obtain ⟨rfl, N10q, e10⟩ := hQ10
          have N10 := Fr.app N9 N10q
          refine go_tr (B := (T10.setTop (mkF m 24 #[.val (.ref a), .val (.int mx), .val (.int (3 : Int32)), .val (.int c2)] [(.int (3 : Int32)), (.int (3 : Int32))]))) (st10) ?_
          refine go_of (B := (T10.setTop (mkF m 84 #[.val (.ref a), .val (.int mx), .val (.int (3 : Int32)), .val (.int c2)] [(.int (1 : Int32))]))) (fun _ kk => XS.icmpYes X10.here hx rfl (pc0 := 24) (pc' := 83) rfl (hb hby d5_24) rfl (flt (by decide : ¬ ((3 : Int32) < (3 : Int32)))).2.1 (by decide) (by decide) (XS.iconst X10.here hx rfl (hb hby d5_83) kk)) ?_
          refine go_end X10 (v := some (.int (nar .boolean (1 : Int32)))) (fun h => by rw [Bd.returns] at h; cases h) Bd.notSynchronized (by decide) (by decide) (Q := (Q_nam_3 Z a mx c0 c1 c2 gC gF h0 n0)) ?_ (fun fs hr => retN X10 hx (t := .boolean) Bd.returns (by simp) (hb hby d5_84) hr)
          unfold Q_nam_3
          try rw [e10]
          refine ⟨?_, N10, rfl⟩
          simp [own_nm, nar, hcc3, hkt_0, hkt_1, hkt_2]
        · intro hkf_2
          refine go_of (B := (T9.setTop (mkF m 76 #[.val (.ref a), .val (.int mx), .val (.int (2 : Int32)), .val (.int c2)] [(.int (0 : Int32))]))) (fun _ kk => XS.iconst X9.here hx rfl (hb hby d5_75) kk) ?_
          refine go_end X9 (v := some (.int (nar .boolean (0 : Int32)))) (fun h => by rw [Bd.returns] at h; cases h) Bd.notSynchronized (by decide) (by decide) (Q := (Q_nam_3 Z a mx c0 c1 c2 gC gF h0 n0)) ?_ (fun fs hr => retN X9 hx (t := .boolean) Bd.returns (by simp) (hb hby d5_76) hr)
          unfold Q_nam_3
          try rw [e9]
          refine ⟨?_, N9, rfl⟩
          simp [own_nm, nar, hcc3, hkt_0, hkt_1, hkf_2]
      · intro hkf_1
        refine go_of (B := (T7.setTop (mkF m 76 #[.val (.ref a), .val (.int mx), .val (.int (1 : Int32)), .val (.int c1)] [(.int (0 : Int32))]))) (fun _ kk => XS.iconst X7.here hx rfl (hb hby d5_75) kk) ?_
        refine go_end X7 (v := some (.int (nar .boolean (0 : Int32)))) (fun h => by rw [Bd.returns] at h; cases h) Bd.notSynchronized (by decide) (by decide) (Q := (Q_nam_3 Z a mx c0 c1 c2 gC gF h0 n0)) ?_ (fun fs hr => retN X7 hx (t := .boolean) Bd.returns (by simp) (hb hby d5_76) hr)
        unfold Q_nam_3
        try rw [e7]
        refine ⟨?_, N7, rfl⟩
        simp [own_nm, nar, hcc3, hkt_0, hkf_1]
    · intro hkf_0
      refine go_of (B := (T5.setTop (mkF m 76 #[.val (.ref a), .val (.int mx), .val (.int (0 : Int32)), .val (.int c0)] [(.int (0 : Int32))]))) (fun _ kk => XS.iconst X5.here hx rfl (hb hby d5_75) kk) ?_
      refine go_end X5 (v := some (.int (nar .boolean (0 : Int32)))) (fun h => by rw [Bd.returns] at h; cases h) Bd.notSynchronized (by decide) (by decide) (Q := (Q_nam_3 Z a mx c0 c1 c2 gC gF h0 n0)) ?_ (fun fs hr => retN X5 hx (t := .boolean) Bd.returns (by simp) (hb hby d5_76) hr)
      unfold Q_nam_3
      try rw [e5]
      refine ⟨?_, N5, rfl⟩
      simp [own_nm, nar, hcc3, hkf_0]
def Q_nam_4 (Z : State) (a : Addr) (mx : Int32) (c0 : Int32) (c1 : Int32) (c2 : Int32) (c3 : Int32) (gC : Int32) (gF : Value) (h0 : Heap) (n0 : Nat) (v : Option Value) (h : Heap) (L : List Loc) : Prop := v = some (.int (own_nm 4 mx [c0, c1, c2, c3])) ∧ Fr n0 L ∧ h = h0
theorem ef_nam_4 (m : MethodId) (a : Addr) (mx : Int32)  : entryFrame m #[(.ref a), (.int mx)] 4 = mkF m 0 #[.val (.ref a), .val (.int mx), .unset, .unset] [] := by first | (simp [entryFrame, mkF, argsToLocals, Value.category]; done) | rfl
theorem nam_4 (l : Launch) (Z : State) (a0 : Array Value) (hw : TW a0 Z) (ws : List Jvm.Cond) (a : Addr) (mx : Int32) (c0 : Int32) (c1 : Int32) (c2 : Int32) (c3 : Int32) (gC : Int32) (gF : Value) (h0 : Heap) (n0 : Nat) (Z0 : n0 ≤ h0.size) (O : Old Z n0 h0) (SC : Sta Z Z.heap "java/lang/String" "COMPACT_STRINGS" "Z" (.int gC)) (hgC : ¬ gC = (0 : Int32)) (S : StrU Z h0 a 4 8 [c0, c1, c2, c3]) (SU : US Z) (SF : Sta Z Z.heap "jdk/internal/util/Preconditions" "SIOOBE_FORMATTER" "Ljava/util/function/BiFunction;" gF) (rgF : gF.isRef = true) :
    own_MF l Z MN0 prog_38_method_2_code 4 (some .boolean) ws (own_R 5 0 0 66) #[(.ref a), (.int mx)] h0 (Q_nam_4 Z a mx c0 c1 c2 c3 gC gF h0 n0) := by
  have wd := @own_wd _ _ hw
  refine MetFree.of_bodySF (plainFor_of_name pn_com_example_libpubid_libpubid_store_Names) hisR ?_
  intro p e s m args below meth c s₁ Bd hml0 hP hK
  obtain ⟨rfl, hZ, hh⟩ := hP
  have hx := Bd.exec
  have hby := Bd.bytes
  have hml : c.maxLocals = 4 := hml0
  have hown : s.vm.findClass "com/example/libpubid/libpubid/store/Names" = some m.cls := findClass_of_methodNamed Bd.named
  have hnm := (name_of_methodNamed Bd.named Bd.method).1
  have X0 : Stand p l e (own_R 5 0 0 66) s m #[(.ref a), (.int mx)] below meth c s₁ [] 0 0 := Stand.of_body Bd
  have e0 : s₁.heap = h0 := by rw [← hh, Bd.state]; rfl
  have N0 := Fr.nil n0
  refine go_of (A := s₁.setTop (entryFrame m #[(.ref a), (.int mx)] 4)) (B := s₁.setTop (mkF m 0 #[.val (.ref a), .val (.int mx), .unset, .unset] [])) (fun _ kk' => castTop (ef_nam_4 m a mx) kk') ?_
  refine go_of (B := (s₁.setTop (mkF m 1 #[.val (.ref a), .val (.int mx), .unset, .unset] [(.ref a)]))) (fun _ kk => XS.aloadN X0.here hx rfl (hb hby d5_0) rfl rfl kk) ?_
  obtain ⟨cq1, kq1, q1a, q1b, q1c⟩ := isOf hZ e0 S.exa
  obtain ⟨_, _, ⟨T1, L1, k1, n1⟩, -, X1, ⟨Lc1, hQ1, l1, y1, z1⟩, st1⟩ := X0.virtualBack hx (y := MN8) (z := MN8) hown (mvT hZ (wd 31 rfl)) (mvT hZ (wd 32 rfl)) (notFace_of_selects (args := #[]) (mvT hZ (wd 34 rfl))) (mvT hZ (wd 34 rfl)) (mvT hZ (wd 33 rfl)) (by decide) (backOf (W := 0) (u_emp l Z a0 hw [] a (4 : Int32) (8 : Int32) [c0, c1, c2, c3] gC h0 n0 (by first | omega | exact own_ne (by omega) | exact own_le (by omega) | exact own_lt (by omega)) O SC hgC S ⟨by decide, by decide⟩) hZ (wd 35 rfl) (wd 3 rfl) (by decide) (by decide)) q1a q1c (g := (mkF m 1 #[.val (.ref a), .val (.int mx), .unset, .unset] [(.ref a)])) rfl (by rw [hml]; rfl) (Steps.refl _) (argsL := []) (rest := []) (lenOf pd___Z rfl) rfl (by show 2 * 0 + _ ≤ _; exact Nat.le_of_eq rfl) (hb hby d5_1) (fun _ _ => ⟨rfl, e0, (by decide : 0 + 0 ≤ _), (by decide : 0 + 0 ≤ _)⟩)
  dsimp only [Pt.U, Pt.locs, Pt.cells, Pt.slots] at X1 l1 y1 z1 st1 hQ1
  subst l1 y1 z1
  obtain ⟨rfl, N1q, e1⟩ := hQ1
  have N1 := Fr.app N0 N1q
  refine go_tr (B := (T1.setTop (mkF m 4 #[.val (.ref a), .val (.int mx), .unset, .unset] [(.int (0 : Int32))]))) (st1) ?_
  refine go_of (B := (T1.setTop (mkF m 8 #[.val (.ref a), .val (.int mx), .unset, .unset] [(.ref a)]))) (fun _ kk => XS.ifNo X1.here hx rfl (hb hby d5_4) rfl ((if0 _ _).trans (teq (by decide : (0 : Int32) = (0 : Int32))).2) (XS.aloadN X1.here hx rfl (hb hby d5_7) rfl rfl kk)) ?_
  obtain ⟨cq2, kq2, q2a, q2b, q2c⟩ := isOf hZ e1 S.exa
  obtain ⟨_, _, ⟨T2, L2, k2, n2⟩, -, X2, ⟨Lc2, hQ2, l2, y2, z2⟩, st2⟩ := X1.virtualBack hx (y := MN10) (z := MN10) hown (mvT hZ (wd 50 rfl)) (mvT hZ (wd 51 rfl)) (notFace_of_selects (args := #[]) (mvT hZ (wd 53 rfl))) (mvT hZ (wd 53 rfl)) (mvT hZ (wd 52 rfl)) (by decide) (backOf (W := 0) (u_len l Z a0 hw [] a (4 : Int32) (8 : Int32) [c0, c1, c2, c3] gC h0 n0 (by first | omega | exact own_ne (by omega) | exact own_le (by omega) | exact own_lt (by omega)) O SC hgC S (by decide)) hZ (wd 54 rfl) (wd 3 rfl) (by decide) (by decide)) q2a q2c (g := (mkF m 8 #[.val (.ref a), .val (.int mx), .unset, .unset] [(.ref a)])) rfl (by rw [hml]; rfl) (Steps.refl _) (argsL := []) (rest := []) (lenOf pd___I rfl) rfl (by show 2 * 0 + _ ≤ _; exact Nat.le_of_eq rfl) (hb hby d5_8) (fun _ _ => ⟨rfl, e1, (by decide : 0 + 0 ≤ _), (by decide : 0 + 0 ≤ _)⟩)
  dsimp only [Pt.U, Pt.locs, Pt.cells, Pt.slots] at X2 l2 y2 z2 st2 hQ2
  subst l2 y2 z2
  obtain ⟨rfl, N2q, e2⟩ := hQ2
  have N2 := Fr.app N1 N2q
  refine go_tr (B := (T2.setTop (mkF m 11 #[.val (.ref a), .val (.int mx), .unset, .unset] [(.int (4 : Int32))]))) (st2) ?_
  refine go_of (B := (T2.setTop (mkF m 12 #[.val (.ref a), .val (.int mx), .unset, .unset] [(.int mx), (.int (4 : Int32))]))) (fun _ kk => XS.iloadN X2.here hx rfl (hb hby d5_11) rfl kk) ?_
  by_cases hcc3 : mx < (4 : Int32)
  · refine go_of (B := (T2.setTop (mkF m 16 #[.val (.ref a), .val (.int mx), .unset, .unset] [(.int (0 : Int32))]))) (fun _ kk => XS.icmpNo X2.here hx rfl (hb hby d5_12) rfl (tlt hcc3).2.2.2 (XS.iconst X2.here hx rfl (hb hby d5_15) kk)) ?_
    refine go_end X2 (v := some (.int (nar .boolean (0 : Int32)))) (fun h => by rw [Bd.returns] at h; cases h) Bd.notSynchronized (by decide) (by decide) (Q := (Q_nam_4 Z a mx c0 c1 c2 c3 gC gF h0 n0)) ?_ (fun fs hr => retN X2 hx (t := .boolean) Bd.returns (by simp) (hb hby d5_16) hr)
    unfold Q_nam_4
    try rw [e2]
    refine ⟨?_, N2, rfl⟩
    simp [own_nm, nar, hcc3]
  · refine go_of (B := (T2.setTop (mkF m 21 #[.val (.ref a), .val (.int mx), .val (.int (0 : Int32)), .unset] [(.ref a), (.int (0 : Int32))]))) (fun _ kk => XS.icmpYes X2.here hx rfl (pc0 := 12) (pc' := 17) rfl (hb hby d5_12) rfl (flt hcc3).2.2.2 (by decide) (by decide) (XS.iconst X2.here hx rfl (hb hby d5_17) (XS.istoreN X2.here hx rfl (hb hby d5_18) rfl rfl (XS.iloadN X2.here hx rfl (hb hby d5_19) rfl (XS.aloadN X2.here hx rfl (hb hby d5_20) rfl rfl kk))))) ?_
    obtain ⟨cq4, kq4, q4a, q4b, q4c⟩ := isOf hZ e2 S.exa
    obtain ⟨_, _, ⟨T4, L4, k4, n4⟩, -, X4, ⟨Lc4, hQ4, l4, y4, z4⟩, st4⟩ := X2.virtualBack hx (y := MN10) (z := MN10) hown (mvT hZ (wd 50 rfl)) (mvT hZ (wd 51 rfl)) (notFace_of_selects (args := #[]) (mvT hZ (wd 53 rfl))) (mvT hZ (wd 53 rfl)) (mvT hZ (wd 52 rfl)) (by decide) (backOf (W := 1) (u_len l Z a0 hw [] a (4 : Int32) (8 : Int32) [c0, c1, c2, c3] gC h0 n0 (by first | omega | exact own_ne (by omega) | exact own_le (by omega) | exact own_lt (by omega)) O SC hgC S (by decide)) hZ (wd 54 rfl) (wd 3 rfl) (by decide) (by decide)) q4a q4c (g := (mkF m 21 #[.val (.ref a), .val (.int mx), .val (.int (0 : Int32)), .unset] [(.ref a), (.int (0 : Int32))])) rfl (by rw [hml]; rfl) (Steps.refl _) (argsL := []) (rest := [(.int (0 : Int32))]) (lenOf pd___I rfl) rfl (by show 2 * 0 + _ ≤ _; exact Nat.le_of_eq rfl) (hb hby d5_21) (fun _ _ => ⟨rfl, e2, (by decide : 0 + 0 ≤ _), (by decide : 0 + 0 ≤ _)⟩)
    dsimp only [Pt.U, Pt.locs, Pt.cells, Pt.slots] at X4 l4 y4 z4 st4 hQ4
    subst l4 y4 z4
    obtain ⟨rfl, N4q, e4⟩ := hQ4
    have N4 := Fr.app N2 N4q
    refine go_tr (B := (T4.setTop (mkF m 24 #[.val (.ref a), .val (.int mx), .val (.int (0 : Int32)), .unset] [(.int (4 : Int32)), (.int (0 : Int32))]))) (st4) ?_
    refine go_of (B := (T4.setTop (mkF m 29 #[.val (.ref a), .val (.int mx), .val (.int (0 : Int32)), .unset] [(.int (0 : Int32)), (.ref a)]))) (fun _ kk => XS.icmpNo X4.here hx rfl (hb hby d5_24) rfl (tlt (by decide : (0 : Int32) < (4 : Int32))).2.1 (XS.aloadN X4.here hx rfl (hb hby d5_27) rfl rfl (XS.iloadN X4.here hx rfl (hb hby d5_28) rfl kk))) ?_
    obtain ⟨cq5, kq5, q5a, q5b, q5c⟩ := isOf hZ e4 S.exa
    obtain ⟨_, _, ⟨T5, L5, k5, n5⟩, -, X5, ⟨Lc5, hQ5, l5, y5, z5⟩, st5⟩ := X4.virtualBack hx (y := MN5) (z := MN5) hown (mvT hZ (wd 60 rfl)) (mvT hZ (wd 61 rfl)) (notFace_of_selects (args := #[]) (mvT hZ (wd 63 rfl))) (mvT hZ (wd 63 rfl)) (mvT hZ (wd 62 rfl)) (by decide) (backOf (W := 0) (u_cha l Z a0 hw [] a (0 : Int32) (4 : Int32) (8 : Int32) [c0, c1, c2, c3] gC c0 gF h0 n0 (by first | omega | exact own_ne (by omega) | exact own_le (by omega) | exact own_lt (by omega)) O SC hgC S SU SF rgF (by decide) (by decide) (by decide) (by decide) rfl rfl rfl (List.mem_of_getElem? (i := 0) rfl)) hZ (wd 64 rfl) (wd 3 rfl) (by decide) (by decide)) q5a q5c (g := (mkF m 29 #[.val (.ref a), .val (.int mx), .val (.int (0 : Int32)), .unset] [(.int (0 : Int32)), (.ref a)])) rfl (by rw [hml]; rfl) (Steps.refl _) (argsL := [(.int (0 : Int32))]) (rest := []) (lenOf pd__I_C rfl) rfl (by show 2 * 0 + _ ≤ _; exact Nat.le_of_eq rfl) (hb hby d5_29) (fun _ _ => ⟨rfl, e4, (by decide : 0 + 0 ≤ _), (by decide : 0 + 0 ≤ _)⟩)
    dsimp only [Pt.U, Pt.locs, Pt.cells, Pt.slots] at X5 l5 y5 z5 st5 hQ5
    subst l5 y5 z5
    obtain ⟨rfl, N5q, e5⟩ := hQ5
    have N5 := Fr.app N4 N5q
    refine go_tr (B := (T5.setTop (mkF m 32 #[.val (.ref a), .val (.int mx), .val (.int (0 : Int32)), .unset] [(.int c0)]))) (st5) ?_
    refine go_of (B := (T5.setTop (mkF m 33 #[.val (.ref a), .val (.int mx), .val (.int (0 : Int32)), .val (.int c0)] []))) (fun _ kk => XS.istoreN X5.here hx rfl (hb hby d5_32) rfl rfl kk) ?_
    refine nam_cls X5 hx hby ?_ ?_
    · intro hkt_0
      refine go_of (B := (T5.setTop (mkF m 21 #[.val (.ref a), .val (.int mx), .val (.int (1 : Int32)), .val (.int c0)] [(.ref a), (.int (1 : Int32))]))) (fun _ kk => XS.iinc X5.here hx rfl (hb hby d5_77) rfl rfl (XS.goto X5.here hx rfl (pc0 := 80) (pc' := 19) rfl (hb hby d5_80) (by decide) (by decide) (XS.iloadN X5.here hx rfl (hb hby d5_19) rfl (XS.aloadN X5.here hx rfl (hb hby d5_20) rfl rfl kk)))) ?_
      obtain ⟨cq6, kq6, q6a, q6b, q6c⟩ := isOf hZ e5 S.exa
      obtain ⟨_, _, ⟨T6, L6, k6, n6⟩, -, X6, ⟨Lc6, hQ6, l6, y6, z6⟩, st6⟩ := X5.virtualBack hx (y := MN10) (z := MN10) hown (mvT hZ (wd 50 rfl)) (mvT hZ (wd 51 rfl)) (notFace_of_selects (args := #[]) (mvT hZ (wd 53 rfl))) (mvT hZ (wd 53 rfl)) (mvT hZ (wd 52 rfl)) (by decide) (backOf (W := 1) (u_len l Z a0 hw [] a (4 : Int32) (8 : Int32) [c0, c1, c2, c3] gC h0 n0 (by first | omega | exact own_ne (by omega) | exact own_le (by omega) | exact own_lt (by omega)) O SC hgC S (by decide)) hZ (wd 54 rfl) (wd 3 rfl) (by decide) (by decide)) q6a q6c (g := (mkF m 21 #[.val (.ref a), .val (.int mx), .val (.int (1 : Int32)), .val (.int c0)] [(.ref a), (.int (1 : Int32))])) rfl (by rw [hml]; rfl) (Steps.refl _) (argsL := []) (rest := [(.int (1 : Int32))]) (lenOf pd___I rfl) rfl (by show 2 * 0 + _ ≤ _; exact Nat.le_of_eq rfl) (hb hby d5_21) (fun _ _ => ⟨rfl, e5, (by decide : 0 + 0 ≤ _), (by decide : 0 + 0 ≤ _)⟩)
      dsimp only [Pt.U, Pt.locs, Pt.cells, Pt.slots] at X6 l6 y6 z6 st6 hQ6
      subst l6 y6 z6
      obtain ⟨rfl, N6q, e6⟩ := hQ6
      have N6 := Fr.app N5 N6q
      refine go_tr (B := (T6.setTop (mkF m 24 #[.val (.ref a), .val (.int mx), .val (.int (1 : Int32)), .val (.int c0)] [(.int (4 : Int32)), (.int (1 : Int32))]))) (st6) ?_
      refine go_of (B := (T6.setTop (mkF m 29 #[.val (.ref a), .val (.int mx), .val (.int (1 : Int32)), .val (.int c0)] [(.int (1 : Int32)), (.ref a)]))) (fun _ kk => XS.icmpNo X6.here hx rfl (hb hby d5_24) rfl (tlt (by decide : (1 : Int32) < (4 : Int32))).2.1 (XS.aloadN X6.here hx rfl (hb hby d5_27) rfl rfl (XS.iloadN X6.here hx rfl (hb hby d5_28) rfl kk))) ?_
      obtain ⟨cq7, kq7, q7a, q7b, q7c⟩ := isOf hZ e6 S.exa
      obtain ⟨_, _, ⟨T7, L7, k7, n7⟩, -, X7, ⟨Lc7, hQ7, l7, y7, z7⟩, st7⟩ := X6.virtualBack hx (y := MN5) (z := MN5) hown (mvT hZ (wd 60 rfl)) (mvT hZ (wd 61 rfl)) (notFace_of_selects (args := #[]) (mvT hZ (wd 63 rfl))) (mvT hZ (wd 63 rfl)) (mvT hZ (wd 62 rfl)) (by decide) (backOf (W := 0) (u_cha l Z a0 hw [] a (1 : Int32) (4 : Int32) (8 : Int32) [c0, c1, c2, c3] gC c1 gF h0 n0 (by first | omega | exact own_ne (by omega) | exact own_le (by omega) | exact own_lt (by omega)) O SC hgC S SU SF rgF (by decide) (by decide) (by decide) (by decide) rfl rfl rfl (List.mem_of_getElem? (i := 1) rfl)) hZ (wd 64 rfl) (wd 3 rfl) (by decide) (by decide)) q7a q7c (g := (mkF m 29 #[.val (.ref a), .val (.int mx), .val (.int (1 : Int32)), .val (.int c0)] [(.int (1 : Int32)), (.ref a)])) rfl (by rw [hml]; rfl) (Steps.refl _) (argsL := [(.int (1 : Int32))]) (rest := []) (lenOf pd__I_C rfl) rfl (by show 2 * 0 + _ ≤ _; exact Nat.le_of_eq rfl) (hb hby d5_29) (fun _ _ => ⟨rfl, e6, (by decide : 0 + 0 ≤ _), (by decide : 0 + 0 ≤ _)⟩)
      dsimp only [Pt.U, Pt.locs, Pt.cells, Pt.slots] at X7 l7 y7 z7 st7 hQ7
      subst l7 y7 z7
      obtain ⟨rfl, N7q, e7⟩ := hQ7
      have N7 := Fr.app N6 N7q
      refine go_tr (B := (T7.setTop (mkF m 32 #[.val (.ref a), .val (.int mx), .val (.int (1 : Int32)), .val (.int c0)] [(.int c1)]))) (st7) ?_
      refine go_of (B := (T7.setTop (mkF m 33 #[.val (.ref a), .val (.int mx), .val (.int (1 : Int32)), .val (.int c1)] []))) (fun _ kk => XS.istoreN X7.here hx rfl (hb hby d5_32) rfl rfl kk) ?_
      refine nam_cls X7 hx hby ?_ ?_
      · intro hkt_1
        refine go_of (B := (T7.setTop (mkF m 21 #[.val (.ref a), .val (.int mx), .val (.int (2 : Int32)), .val (.int c1)] [(.ref a), (.int (2 : Int32))]))) (fun _ kk => XS.iinc X7.here hx rfl (hb hby d5_77) rfl rfl (XS.goto X7.here hx rfl (pc0 := 80) (pc' := 19) rfl (hb hby d5_80) (by decide) (by decide) (XS.iloadN X7.here hx rfl (hb hby d5_19) rfl (XS.aloadN X7.here hx rfl (hb hby d5_20) rfl rfl kk)))) ?_
        obtain ⟨cq8, kq8, q8a, q8b, q8c⟩ := isOf hZ e7 S.exa
        obtain ⟨_, _, ⟨T8, L8, k8, n8⟩, -, X8, ⟨Lc8, hQ8, l8, y8, z8⟩, st8⟩ := X7.virtualBack hx (y := MN10) (z := MN10) hown (mvT hZ (wd 50 rfl)) (mvT hZ (wd 51 rfl)) (notFace_of_selects (args := #[]) (mvT hZ (wd 53 rfl))) (mvT hZ (wd 53 rfl)) (mvT hZ (wd 52 rfl)) (by decide) (backOf (W := 1) (u_len l Z a0 hw [] a (4 : Int32) (8 : Int32) [c0, c1, c2, c3] gC h0 n0 (by first | omega | exact own_ne (by omega) | exact own_le (by omega) | exact own_lt (by omega)) O SC hgC S (by decide)) hZ (wd 54 rfl) (wd 3 rfl) (by decide) (by decide)) q8a q8c (g := (mkF m 21 #[.val (.ref a), .val (.int mx), .val (.int (2 : Int32)), .val (.int c1)] [(.ref a), (.int (2 : Int32))])) rfl (by rw [hml]; rfl) (Steps.refl _) (argsL := []) (rest := [(.int (2 : Int32))]) (lenOf pd___I rfl) rfl (by show 2 * 0 + _ ≤ _; exact Nat.le_of_eq rfl) (hb hby d5_21) (fun _ _ => ⟨rfl, e7, (by decide : 0 + 0 ≤ _), (by decide : 0 + 0 ≤ _)⟩)
        dsimp only [Pt.U, Pt.locs, Pt.cells, Pt.slots] at X8 l8 y8 z8 st8 hQ8
        subst l8 y8 z8
        obtain ⟨rfl, N8q, e8⟩ := hQ8
        have N8 := Fr.app N7 N8q
        refine go_tr (B := (T8.setTop (mkF m 24 #[.val (.ref a), .val (.int mx), .val (.int (2 : Int32)), .val (.int c1)] [(.int (4 : Int32)), (.int (2 : Int32))]))) (st8) ?_
        refine go_of (B := (T8.setTop (mkF m 29 #[.val (.ref a), .val (.int mx), .val (.int (2 : Int32)), .val (.int c1)] [(.int (2 : Int32)), (.ref a)]))) (fun _ kk => XS.icmpNo X8.here hx rfl (hb hby d5_24) rfl (tlt (by decide : (2 : Int32) < (4 : Int32))).2.1 (XS.aloadN X8.here hx rfl (hb hby d5_27) rfl rfl (XS.iloadN X8.here hx rfl (hb hby d5_28) rfl kk))) ?_
        obtain ⟨cq9, kq9, q9a, q9b, q9c⟩ := isOf hZ e8 S.exa
        obtain ⟨_, _, ⟨T9, L9, k9, n9⟩, -, X9, ⟨Lc9, hQ9, l9, y9, z9⟩, st9⟩ := X8.virtualBack hx (y := MN5) (z := MN5) hown (mvT hZ (wd 60 rfl)) (mvT hZ (wd 61 rfl)) (notFace_of_selects (args := #[]) (mvT hZ (wd 63 rfl))) (mvT hZ (wd 63 rfl)) (mvT hZ (wd 62 rfl)) (by decide) (backOf (W := 0) (u_cha l Z a0 hw [] a (2 : Int32) (4 : Int32) (8 : Int32) [c0, c1, c2, c3] gC c2 gF h0 n0 (by first | omega | exact own_ne (by omega) | exact own_le (by omega) | exact own_lt (by omega)) O SC hgC S SU SF rgF (by decide) (by decide) (by decide) (by decide) rfl rfl rfl (List.mem_of_getElem? (i := 2) rfl)) hZ (wd 64 rfl) (wd 3 rfl) (by decide) (by decide)) q9a q9c (g := (mkF m 29 #[.val (.ref a), .val (.int mx), .val (.int (2 : Int32)), .val (.int c1)] [(.int (2 : Int32)), (.ref a)])) rfl (by rw [hml]; rfl) (Steps.refl _) (argsL := [(.int (2 : Int32))]) (rest := []) (lenOf pd__I_C rfl) rfl (by show 2 * 0 + _ ≤ _; exact Nat.le_of_eq rfl) (hb hby d5_29) (fun _ _ => ⟨rfl, e8, (by decide : 0 + 0 ≤ _), (by decide : 0 + 0 ≤ _)⟩)
        dsimp only [Pt.U, Pt.locs, Pt.cells, Pt.slots] at X9 l9 y9 z9 st9 hQ9
        subst l9 y9 z9
        obtain ⟨rfl, N9q, e9⟩ := hQ9
        have N9 := Fr.app N8 N9q
        refine go_tr (B := (T9.setTop (mkF m 32 #[.val (.ref a), .val (.int mx), .val (.int (2 : Int32)), .val (.int c1)] [(.int c2)]))) (st9) ?_
        refine go_of (B := (T9.setTop (mkF m 33 #[.val (.ref a), .val (.int mx), .val (.int (2 : Int32)), .val (.int c2)] []))) (fun _ kk => XS.istoreN X9.here hx rfl (hb hby d5_32) rfl rfl kk) ?_
        refine nam_cls X9 hx hby ?_ ?_
        · intro hkt_2
          refine go_of (B := (T9.setTop (mkF m 21 #[.val (.ref a), .val (.int mx), .val (.int (3 : Int32)), .val (.int c2)] [(.ref a), (.int (3 : Int32))]))) (fun _ kk => XS.iinc X9.here hx rfl (hb hby d5_77) rfl rfl (XS.goto X9.here hx rfl (pc0 := 80) (pc' := 19) rfl (hb hby d5_80) (by decide) (by decide) (XS.iloadN X9.here hx rfl (hb hby d5_19) rfl (XS.aloadN X9.here hx rfl (hb hby d5_20) rfl rfl kk)))) ?_
          obtain ⟨cq10, kq10, q10a, q10b, q10c⟩ := isOf hZ e9 S.exa
          obtain ⟨_, _, ⟨T10, L10, k10, n10⟩, -, X10, ⟨Lc10, hQ10, l10, y10, z10⟩, st10⟩ := X9.virtualBack hx (y := MN10) (z := MN10) hown (mvT hZ (wd 50 rfl)) (mvT hZ (wd 51 rfl)) (notFace_of_selects (args := #[]) (mvT hZ (wd 53 rfl))) (mvT hZ (wd 53 rfl)) (mvT hZ (wd 52 rfl)) (by decide) (backOf (W := 1) (u_len l Z a0 hw [] a (4 : Int32) (8 : Int32) [c0, c1, c2, c3] gC h0 n0 (by first | omega | exact own_ne (by omega) | exact own_le (by omega) | exact own_lt (by omega)) O SC hgC S (by decide)) hZ (wd 54 rfl) (wd 3 rfl) (by decide) (by decide)) q10a q10c (g := (mkF m 21 #[.val (.ref a), .val (.int mx), .val (.int (3 : Int32)), .val (.int c2)] [(.ref a), (.int (3 : Int32))])) rfl (by rw [hml]; rfl) (Steps.refl _) (argsL := []) (rest := [(.int (3 : Int32))]) (lenOf pd___I rfl) rfl (by show 2 * 0 + _ ≤ _; exact Nat.le_of_eq rfl) (hb hby d5_21) (fun _ _ => ⟨rfl, e9, (by decide : 0 + 0 ≤ _), (by decide : 0 + 0 ≤ _)⟩)
          dsimp only [Pt.U, Pt.locs, Pt.cells, Pt.slots] at X10 l10 y10 z10 st10 hQ10
          subst l10 y10 z10
          obtain ⟨rfl, N10q, e10⟩ := hQ10
          have N10 := Fr.app N9 N10q
          refine go_tr (B := (T10.setTop (mkF m 24 #[.val (.ref a), .val (.int mx), .val (.int (3 : Int32)), .val (.int c2)] [(.int (4 : Int32)), (.int (3 : Int32))]))) (st10) ?_
          refine go_of (B := (T10.setTop (mkF m 29 #[.val (.ref a), .val (.int mx), .val (.int (3 : Int32)), .val (.int c2)] [(.int (3 : Int32)), (.ref a)]))) (fun _ kk => XS.icmpNo X10.here hx rfl (hb hby d5_24) rfl (tlt (by decide : (3 : Int32) < (4 : Int32))).2.1 (XS.aloadN X10.here hx rfl (hb hby d5_27) rfl rfl (XS.iloadN X10.here hx rfl (hb hby d5_28) rfl kk))) ?_
          obtain ⟨cq11, kq11, q11a, q11b, q11c⟩ := isOf hZ e10 S.exa
          obtain ⟨_, _, ⟨T11, L11, k11, n11⟩, -, X11, ⟨Lc11, hQ11, l11, y11, z11⟩, st11⟩ := X10.virtualBack hx (y := MN5) (z := MN5) hown (mvT hZ (wd 60 rfl)) (mvT hZ (wd 61 rfl)) (notFace_of_selects (args := #[]) (mvT hZ (wd 63 rfl))) (mvT hZ (wd 63 rfl)) (mvT hZ (wd 62 rfl)) (by decide) (backOf (W := 0) (u_cha l Z a0 hw [] a (3 : Int32) (4 : Int32) (8 : Int32) [c0, c1, c2, c3] gC c3 gF h0 n0 (by first | omega | exact own_ne (by omega) | exact own_le (by omega) | exact own_lt (by omega)) O SC hgC S SU SF rgF (by decide) (by decide) (by decide) (by decide) rfl rfl rfl (List.mem_of_getElem? (i := 3) rfl)) hZ (wd 64 rfl) (wd 3 rfl) (by decide) (by decide)) q11a q11c (g := (mkF m 29 #[.val (.ref a), .val (.int mx), .val (.int (3 : Int32)), .val (.int c2)] [(.int (3 : Int32)), (.ref a)])) rfl (by rw [hml]; rfl) (Steps.refl _) (argsL := [(.int (3 : Int32))]) (rest := []) (lenOf pd__I_C rfl) rfl (by show 2 * 0 + _ ≤ _; exact Nat.le_of_eq rfl) (hb hby d5_29) (fun _ _ => ⟨rfl, e10, (by decide : 0 + 0 ≤ _), (by decide : 0 + 0 ≤ _)⟩)
          dsimp only [Pt.U, Pt.locs, Pt.cells, Pt.slots] at X11 l11 y11 z11 st11 hQ11
          subst l11 y11 z11
          obtain ⟨rfl, N11q, e11⟩ := hQ11
          have N11 := Fr.app N10 N11q
          refine go_tr (B := (T11.setTop (mkF m 32 #[.val (.ref a), .val (.int mx), .val (.int (3 : Int32)), .val (.int c2)] [(.int c3)]))) (st11) ?_
          refine go_of (B := (T11.setTop (mkF m 33 #[.val (.ref a), .val (.int mx), .val (.int (3 : Int32)), .val (.int c3)] []))) (fun _ kk => XS.istoreN X11.here hx rfl (hb hby d5_32) rfl rfl kk) ?_
          refine nam_cls X11 hx hby ?_ ?_
          · intro hkt_3
            refine go_of (B := (T11.setTop (mkF m 21 #[.val (.ref a), .val (.int mx), .val (.int (4 : Int32)), .val (.int c3)] [(.ref a), (.int (4 : Int32))]))) (fun _ kk => XS.iinc X11.here hx rfl (hb hby d5_77) rfl rfl (XS.goto X11.here hx rfl (pc0 := 80) (pc' := 19) rfl (hb hby d5_80) (by decide) (by decide) (XS.iloadN X11.here hx rfl (hb hby d5_19) rfl (XS.aloadN X11.here hx rfl (hb hby d5_20) rfl rfl kk)))) ?_
            obtain ⟨cq12, kq12, q12a, q12b, q12c⟩ := isOf hZ e11 S.exa
            obtain ⟨_, _, ⟨T12, L12, k12, n12⟩, -, X12, ⟨Lc12, hQ12, l12, y12, z12⟩, st12⟩ := X11.virtualBack hx (y := MN10) (z := MN10) hown (mvT hZ (wd 50 rfl)) (mvT hZ (wd 51 rfl)) (notFace_of_selects (args := #[]) (mvT hZ (wd 53 rfl))) (mvT hZ (wd 53 rfl)) (mvT hZ (wd 52 rfl)) (by decide) (backOf (W := 1) (u_len l Z a0 hw [] a (4 : Int32) (8 : Int32) [c0, c1, c2, c3] gC h0 n0 (by first | omega | exact own_ne (by omega) | exact own_le (by omega) | exact own_lt (by omega)) O SC hgC S (by decide)) hZ (wd 54 rfl) (wd 3 rfl) (by decide) (by decide)) q12a q12c (g := (mkF m 21 #[.val (.ref a), .val (.int mx), .val (.int (4 : Int32)), .val (.int c3)] [(.ref a), (.int (4 : Int32))])) rfl (by rw [hml]; rfl) (Steps.refl _) (argsL := []) (rest := [(.int (4 : Int32))]) (lenOf pd___I rfl) rfl (by show 2 * 0 + _ ≤ _; exact Nat.le_of_eq rfl) (hb hby d5_21) (fun _ _ => ⟨rfl, e11, (by decide : 0 + 0 ≤ _), (by decide : 0 + 0 ≤ _)⟩)
            dsimp only [Pt.U, Pt.locs, Pt.cells, Pt.slots] at X12 l12 y12 z12 st12 hQ12
            subst l12 y12 z12
            obtain ⟨rfl, N12q, e12⟩ := hQ12
            have N12 := Fr.app N11 N12q
            refine go_tr (B := (T12.setTop (mkF m 24 #[.val (.ref a), .val (.int mx), .val (.int (4 : Int32)), .val (.int c3)] [(.int (4 : Int32)), (.int (4 : Int32))]))) (st12) ?_
            refine go_of (B := (T12.setTop (mkF m 84 #[.val (.ref a), .val (.int mx), .val (.int (4 : Int32)), .val (.int c3)] [(.int (1 : Int32))]))) (fun _ kk => XS.icmpYes X12.here hx rfl (pc0 := 24) (pc' := 83) rfl (hb hby d5_24) rfl (flt (by decide : ¬ ((4 : Int32) < (4 : Int32)))).2.1 (by decide) (by decide) (XS.iconst X12.here hx rfl (hb hby d5_83) kk)) ?_
            refine go_end X12 (v := some (.int (nar .boolean (1 : Int32)))) (fun h => by rw [Bd.returns] at h; cases h) Bd.notSynchronized (by decide) (by decide) (Q := (Q_nam_4 Z a mx c0 c1 c2 c3 gC gF h0 n0)) ?_ (fun fs hr => retN X12 hx (t := .boolean) Bd.returns (by simp) (hb hby d5_84) hr)
            unfold Q_nam_4
            try rw [e12]
            refine ⟨?_, N12, rfl⟩
            simp [own_nm, nar, hcc3, hkt_0, hkt_1, hkt_2, hkt_3]
          · intro hkf_3
            refine go_of (B := (T11.setTop (mkF m 76 #[.val (.ref a), .val (.int mx), .val (.int (3 : Int32)), .val (.int c3)] [(.int (0 : Int32))]))) (fun _ kk => XS.iconst X11.here hx rfl (hb hby d5_75) kk) ?_
            refine go_end X11 (v := some (.int (nar .boolean (0 : Int32)))) (fun h => by rw [Bd.returns] at h; cases h) Bd.notSynchronized (by decide) (by decide) (Q := (Q_nam_4 Z a mx c0 c1 c2 c3 gC gF h0 n0)) ?_ (fun fs hr => retN X11 hx (t := .boolean) Bd.returns (by simp) (hb hby d5_76) hr)
            unfold Q_nam_4
            try rw [e11]
            refine ⟨?_, N11, rfl⟩
            simp [own_nm, nar, hcc3, hkt_0, hkt_1, hkt_2, hkf_3]
        · intro hkf_2
          refine go_of (B := (T9.setTop (mkF m 76 #[.val (.ref a), .val (.int mx), .val (.int (2 : Int32)), .val (.int c2)] [(.int (0 : Int32))]))) (fun _ kk => XS.iconst X9.here hx rfl (hb hby d5_75) kk) ?_
          refine go_end X9 (v := some (.int (nar .boolean (0 : Int32)))) (fun h => by rw [Bd.returns] at h; cases h) Bd.notSynchronized (by decide) (by decide) (Q := (Q_nam_4 Z a mx c0 c1 c2 c3 gC gF h0 n0)) ?_ (fun fs hr => retN X9 hx (t := .boolean) Bd.returns (by simp) (hb hby d5_76) hr)
          unfold Q_nam_4
          try rw [e9]
          refine ⟨?_, N9, rfl⟩
          simp [own_nm, nar, hcc3, hkt_0, hkt_1, hkf_2]
      · intro hkf_1
        refine go_of (B := (T7.setTop (mkF m 76 #[.val (.ref a), .val (.int mx), .val (.int (1 : Int32)), .val (.int c1)] [(.int (0 : Int32))]))) (fun _ kk => XS.iconst X7.here hx rfl (hb hby d5_75) kk) ?_
        refine go_end X7 (v := some (.int (nar .boolean (0 : Int32)))) (fun h => by rw [Bd.returns] at h; cases h) Bd.notSynchronized (by decide) (by decide) (Q := (Q_nam_4 Z a mx c0 c1 c2 c3 gC gF h0 n0)) ?_ (fun fs hr => retN X7 hx (t := .boolean) Bd.returns (by simp) (hb hby d5_76) hr)
        unfold Q_nam_4
        try rw [e7]
        refine ⟨?_, N7, rfl⟩
        simp [own_nm, nar, hcc3, hkt_0, hkf_1]
    · intro hkf_0
      refine go_of (B := (T5.setTop (mkF m 76 #[.val (.ref a), .val (.int mx), .val (.int (0 : Int32)), .val (.int c0)] [(.int (0 : Int32))]))) (fun _ kk => XS.iconst X5.here hx rfl (hb hby d5_75) kk) ?_
      refine go_end X5 (v := some (.int (nar .boolean (0 : Int32)))) (fun h => by rw [Bd.returns] at h; cases h) Bd.notSynchronized (by decide) (by decide) (Q := (Q_nam_4 Z a mx c0 c1 c2 c3 gC gF h0 n0)) ?_ (fun fs hr => retN X5 hx (t := .boolean) Bd.returns (by simp) (hb hby d5_76) hr)
      unfold Q_nam_4
      try rw [e5]
      refine ⟨?_, N5, rfl⟩
      simp [own_nm, nar, hcc3, hkf_0]
theorem d3_0 : decode jdk_42_method_149_code 0 = .ok (.aload_n 0, 1) := by decide +kernel
theorem d3_1 : decode jdk_42_method_149_code 1 = .ok (.invokespecial 1, 3) := by decide +kernel
theorem d3_4 : decode jdk_42_method_149_code 4 = .ok (.iload_n 3, 1) := by decide +kernel
theorem d3_5 : decode jdk_42_method_149_code 5 = .ok (.ifCond .ne 22, 3) := by decide +kernel
theorem d3_8 : decode jdk_42_method_149_code 8 = .ok (.aload_n 0, 1) := by decide +kernel
theorem d3_9 : decode jdk_42_method_149_code 9 = .ok (.ldc 7, 2) := by decide +kernel
theorem d3_11 : decode jdk_42_method_149_code 11 = .ok (.getfield 9, 3) := by decide +kernel
theorem d3_14 : decode jdk_42_method_149_code 14 = .ok (.putfield 9, 3) := by decide +kernel
theorem d3_17 : decode jdk_42_method_149_code 17 = .ok (.aload_n 0, 1) := by decide +kernel
theorem d3_18 : decode jdk_42_method_149_code 18 = .ok (.ldc 7, 2) := by decide +kernel
theorem d3_20 : decode jdk_42_method_149_code 20 = .ok (.getfield 15, 3) := by decide +kernel
theorem d3_23 : decode jdk_42_method_149_code 23 = .ok (.putfield 15, 3) := by decide +kernel
theorem d3_26 : decode jdk_42_method_149_code 26 = .ok (.return_, 1) := by decide +kernel
def Q_str_i4_0 (Z : State) (a : Addr) (s' : Addr) (u2 : Value) (h0 : Heap) (n0 : Nat) (v : Option Value) (h : Heap) (L : List Loc) : Prop := v = none ∧ Fr n0 L ∧ Keep h0 h [a] ∧ Str Z h a 0 []
theorem ef_str_i4_0 (m : MethodId) (a : Addr) (s' : Addr)  : entryFrame m #[(.ref a), (.ref s'), (.int (0 : Int32)), (.int (0 : Int32)), .null] 6 = mkF m 0 #[.val (.ref a), .val (.ref s'), .val (.int (0 : Int32)), .val (.int (0 : Int32)), .val .null, .unset] [] := by first | (simp [entryFrame, mkF, argsToLocals, Value.category]; done) | rfl
theorem str_i4_0 (l : Launch) (Z : State) (a0 : Array Value) (hw : TW a0 Z) (ws : List Jvm.Cond) (a : Addr) (s' : Addr) (u2 : Value) (h0 : Heap) (n0 : Nat) (Z0 : n0 ≤ h0.size) (E : Exa Z h0 a "java/lang/String") (F : Fld Z h0 a "java/lang/String" "value" "[B" .null) (F2 : Fld Z h0 a "java/lang/String" "coder" "B" u2) (g : n0 ≤ a) :
    own_MFH l Z MN4 jdk_42_method_149_code 6 none ws (own_R 1 4 8 12) #[(.ref a), (.ref s'), (.int (0 : Int32)), (.int (0 : Int32)), .null] h0 (Q_str_i4_0 Z a s' u2 h0 n0) := by
  have wd := @own_wd _ _ hw
  refine MetFree.of_bodySF (plainFor_of_name pn_java_lang_String) hisR ?_
  intro p e s m args below meth c s₁ Bd hml0 hP hK
  obtain ⟨rfl, hZ, hh, hCH⟩ := hP
  have hx := Bd.exec
  have hby := Bd.bytes
  have hml : c.maxLocals = 6 := hml0
  have hown : s.vm.findClass "java/lang/String" = some m.cls := findClass_of_methodNamed Bd.named
  have hnm := (name_of_methodNamed Bd.named Bd.method).1
  have X0 : Stand p l e (own_R 1 4 8 12) (s.setVm s.vm) m #[(.ref a), (.ref s'), (.int (0 : Int32)), (.int (0 : Int32)), .null] below meth c s₁ [] 0 0 := Stand.of_body Bd
  have e0 : s₁.heap = h0 := by rw [← hh, Bd.state]; rfl
  have N0 := Fr.nil n0
  have hS : s.Since s.vm 0 := (State.WarmedH.refl s).since 0
  have hh0 := hh
  have hEL := own_EW hw
  have HC0 := CHr.refl hCH
  have lta := own_nlt (E.lt)
  refine go_of (A := s₁.setTop (entryFrame m #[(.ref a), (.ref s'), (.int (0 : Int32)), (.int (0 : Int32)), .null] 6)) (B := s₁.setTop (mkF m 0 #[.val (.ref a), .val (.ref s'), .val (.int (0 : Int32)), .val (.int (0 : Int32)), .val .null, .unset] [])) (fun _ kk' => castTop (ef_str_i4_0 m a s') kk') ?_
  refine go_of (B := (s₁.setTop (mkF m 1 #[.val (.ref a), .val (.ref s'), .val (.int (0 : Int32)), .val (.int (0 : Int32)), .val .null, .unset] [(.ref a)]))) (fun _ kk => XS.aloadN X0.here hx rfl (hb hby d3_0) rfl rfl kk) ?_
  obtain ⟨T1, X1, e1, st1⟩ := initO X0 hx hZ hown (wd 16 rfl) (wd 17 rfl) (wd 18 rfl) e0 (g := (mkF m 1 #[.val (.ref a), .val (.ref s'), .val (.int (0 : Int32)), .val (.int (0 : Int32)), .val .null, .unset] [(.ref a)])) rfl (by rw [hml]; rfl) rfl (hb hby d3_1) (by decide) (W := 0) (by show 2 * 0 + _ ≤ _; exact Nat.le_of_eq rfl) (by decide)
  refine go_of (B := (T1.setTop (mkF m 4 #[.val (.ref a), .val (.ref s'), .val (.int (0 : Int32)), .val (.int (0 : Int32)), .val .null, .unset] []))) (st1) ?_
  refine go_of (B := (T1.setTop (mkF m 8 #[.val (.ref a), .val (.ref s'), .val (.int (0 : Int32)), .val (.int (0 : Int32)), .val .null, .unset] []))) (fun _ kk => XS.iloadN X1.here hx rfl (hb hby d3_4) rfl (XS.ifNo X1.here hx rfl (hb hby d3_5) rfl ((if0 _ _).trans (teq (by decide : (0 : Int32) = (0 : Int32))).2) kk)) ?_
  have sf_2 := (own_safe_null hZ.alike E F : (Safe Z own_EL _ h0 a))
  refine go_of (B := (T1.setTop (mkF m 9 #[.val (.ref a), .val (.ref s'), .val (.int (0 : Int32)), .val (.int (0 : Int32)), .val .null, .unset] [(.ref a)]))) (fun _ kk => XS.aloadN X1.here hx rfl (hb hby d3_8) rfl rfl kk) ?_
  obtain ⟨b3, T3, h3, k3, t3, kt3, X3, e3, E3, hS, hk3, hZ, hown, A3, Fc3, Fv3, V3, lb3, lt3, HR3, -, ne3, st3⟩ := ldcCH X1 hx hZ hown (wd 19 rfl) (own_wS hw) e1 hS (by first | omega | exact own_ne (by omega) | exact own_le (by omega) | exact own_lt (by omega)) hEL (List.mem_of_getElem? (i := 0) rfl) HC0.1 (vs := []) (z := 0) ⟨(by decide), (by first | rfl | decide)⟩ (by decide) rfl (g := (mkF m 9 #[.val (.ref a), .val (.ref s'), .val (.int (0 : Int32)), .val (.int (0 : Int32)), .val .null, .unset] [(.ref a)])) rfl (hb hby d3_9) (n := 0) (by decide) (by decide) (by decide) (by decide)
  have lb3 := own_nlt lb3
  have lt3 := own_nlt lt3
  have sz3 := E3.1
  have HC3 := HC0.trans HR3
  have sf_4 := (HR3.safe (by first | omega | exact own_ne (by omega) | exact own_le (by omega) | exact own_lt (by omega)) sf_2)
  have nt3_a : @Ne Nat t3 a := fun q => (ne3 a sf_4).2 q.symm
  have nb3_a : @Ne Nat b3 a := fun q => (ne3 a sf_4).1 q.symm
  refine go_of (B := (T3.setTop (mkF m 11 #[.val (.ref a), .val (.ref s'), .val (.int (0 : Int32)), .val (.int (0 : Int32)), .val .null, .unset] [(.ref b3), (.ref a)]))) (st3) ?_
  obtain ⟨T5, X5, e5, st5⟩ := getF X3 hx hZ hown (host := "") (Or.inl (wd 25 rfl)) Via.refl e3 Fv3 (g := (mkF m 11 #[.val (.ref a), .val (.ref s'), .val (.int (0 : Int32)), .val (.int (0 : Int32)), .val .null, .unset] [(.ref b3), (.ref a)])) rfl rfl (hb hby d3_11)
  refine go_of (B := (T5.setTop (mkF m 14 #[.val (.ref a), .val (.ref s'), .val (.int (0 : Int32)), .val (.int (0 : Int32)), .val .null, .unset] [(.ref t3), (.ref a)]))) (st5) ?_
  have cf_6 := (E.ext E3)
  have cf_7 := (F.ext E3)
  obtain ⟨T8, h8, X8, e8, W8, st8⟩ := putF X5 hx hZ hown (host := "") (Or.inl (wd 25 rfl)) Via.refl e5 cf_7 cf_6 (Or.inr ⟨(wd 21 rfl), rfl, hnm⟩) (wd 2 rfl) (ty := (.array .byte)) (by decide) rfl rfl (g := (mkF m 14 #[.val (.ref a), .val (.ref s'), .val (.int (0 : Int32)), .val (.int (0 : Int32)), .val .null, .unset] [(.ref t3), (.ref a)])) rfl rfl (hb hby d3_14)
  have sz8 := W8.size
  have Fw8 := cf_7.same W8
  have N8 := Fr.snoc X8 N0 (g : n0 ≤ a)
  have SF8 := sf_4
  have HC8 := HC3.trans (CHr.wr W8 SF8 HC3.1)
  refine go_of (B := (T8.setTop (mkF m 17 #[.val (.ref a), .val (.ref s'), .val (.int (0 : Int32)), .val (.int (0 : Int32)), .val .null, .unset] []))) (st8) ?_
  refine go_of (B := (T8.setTop (mkF m 18 #[.val (.ref a), .val (.ref s'), .val (.int (0 : Int32)), .val (.int (0 : Int32)), .val .null, .unset] [(.ref a)]))) (fun _ kk => XS.aloadN X8.here hx rfl (hb hby d3_17) rfl rfl kk) ?_
  obtain ⟨b9, T9, h9, k9, t9, kt9, X9, e9, E9, hS, hk9, hZ, hown, A9, Fc9, Fv9, V9, lb9, lt9, HR9, -, ne9, st9⟩ := ldcCH X8 hx hZ hown (wd 19 rfl) (own_wS hw) e8 hS (by first | omega | exact own_ne (by omega) | exact own_le (by omega) | exact own_lt (by omega)) hEL (List.mem_of_getElem? (i := 0) rfl) HC8.1 (vs := []) (z := 0) ⟨(by decide), (by first | rfl | decide)⟩ (by decide) rfl (g := (mkF m 18 #[.val (.ref a), .val (.ref s'), .val (.int (0 : Int32)), .val (.int (0 : Int32)), .val .null, .unset] [(.ref a)])) rfl (hb hby d3_18) (n := 0) (by decide) (by decide) (by decide) (by decide)
  have lb9 := own_nlt lb9
  have lt9 := own_nlt lt9
  have sz9 := E9.1
  have HC9 := HC8.trans HR9
  have sf_10 := (HR9.safe (by first | omega | exact own_ne (by omega) | exact own_le (by omega) | exact own_lt (by omega)) (Safe.wr W8 SF8 HC3.1 sf_4))
  have nt9_a : @Ne Nat t9 a := fun q => (ne9 a sf_10).2 q.symm
  have nb9_a : @Ne Nat b9 a := fun q => (ne9 a sf_10).1 q.symm
  refine go_of (B := (T9.setTop (mkF m 20 #[.val (.ref a), .val (.ref s'), .val (.int (0 : Int32)), .val (.int (0 : Int32)), .val .null, .unset] [(.ref b9), (.ref a)]))) (st9) ?_
  obtain ⟨T11, X11, e11, st11⟩ := getF X9 hx hZ hown (host := "") (Or.inl (wd 26 rfl)) Via.refl e9 Fc9 (g := (mkF m 20 #[.val (.ref a), .val (.ref s'), .val (.int (0 : Int32)), .val (.int (0 : Int32)), .val .null, .unset] [(.ref b9), (.ref a)])) rfl rfl (hb hby d3_20)
  refine go_of (B := (T11.setTop (mkF m 23 #[.val (.ref a), .val (.ref s'), .val (.int (0 : Int32)), .val (.int (0 : Int32)), .val .null, .unset] [(.int (0 : Int32)), (.ref a)]))) (st11) ?_
  have cf_12 := ((cf_6.wr W8).ext E9)
  have cf_13 := (((F2.ext E3).other W8 (Or.inr (slot_ne (Or.inr (wd 22 rfl)) (Or.inr (wd 21 rfl)) (by decide) (t := .byte) (t' := (.array .byte)) (by decide) (by decide)))).ext E9)
  obtain ⟨T14, h14, X14, e14, W14, st14⟩ := putFN X11 hx hZ hown (wd 26 rfl) Via.refl e11 cf_13 cf_12 (Or.inr ⟨(wd 22 rfl), rfl, hnm⟩) (wd 2 rfl) (ty := .byte) (v' := (.int (nar .byte (0 : Int32)))) (by decide) rfl (fits_nar_byte _) (g := (mkF m 23 #[.val (.ref a), .val (.ref s'), .val (.int (0 : Int32)), .val (.int (0 : Int32)), .val .null, .unset] [(.int (0 : Int32)), (.ref a)])) rfl rfl (hb hby d3_23)
  have sz14 := W14.size
  have Fw14 := cf_13.same W14
  have N14 := Fr.snoc X14 N8 (g : n0 ≤ a)
  have SF14 := sf_10
  have HC14 := HC9.trans (CHr.wr W14 SF14 HC9.1)
  refine go_of (B := (T14.setTop (mkF m 26 #[.val (.ref a), .val (.ref s'), .val (.int (0 : Int32)), .val (.int (0 : Int32)), .val .null, .unset] []))) (st14) ?_
  have cf_15 := (((V3.other W8 (by first | omega | exact own_ne (by omega) | exact own_le (by omega) | exact own_lt (by omega))).ext E9).other W14 (by first | omega | exact own_ne (by omega) | exact own_le (by omega) | exact own_lt (by omega)))
  have cf_16 := ((Fw8.ext E9).other W14 (Or.inr (slot_ne (Or.inr (wd 21 rfl)) (Or.inr (wd 22 rfl)) (by decide) (t := (.array .byte)) (t' := .byte) (by decide) (by decide))))
  have cf_17 := (cf_12.wr W14)
  refine go_endH X14 hZ hEL HC14 hh0 e14 hS (by rw [e14]; omega) (v := none) (fun _ => rfl) Bd.notSynchronized (by decide) (by decide) (Q := (Q_str_i4_0 Z a s' u2 h0 n0)) ?_ (fun fs hr => X14.returnOut hx Bd.returns (hb hby d3_26) hr)
  unfold Q_str_i4_0
  try rw [e14]
  exact ⟨rfl, N14, (((((Keep.refl h0 [a]).ext E3).wr W8 (Or.inl (List.mem_of_getElem? (i := 0) rfl))).ext E9).wr W14 (Or.inl (List.mem_of_getElem? (i := 0) rfl))), ⟨t3, kt3, cf_17, Fw14, cf_16, cf_15, (fun _ q => nomatch q)⟩⟩
theorem d2_0 : decode jdk_42_method_3_code 0 = .ok (.aload_n 0, 1) := by decide +kernel
theorem d2_1 : decode jdk_42_method_3_code 1 = .ok (.aload_n 1, 1) := by decide +kernel
theorem d2_2 : decode jdk_42_method_3_code 2 = .ok (.iconst 0, 1) := by decide +kernel
theorem d2_3 : decode jdk_42_method_3_code 3 = .ok (.aload_n 1, 1) := by decide +kernel
theorem d2_4 : decode jdk_42_method_3_code 4 = .ok (.arraylength, 1) := by decide +kernel
theorem d2_5 : decode jdk_42_method_3_code 5 = .ok (.aconst_null, 1) := by decide +kernel
theorem d2_6 : decode jdk_42_method_3_code 6 = .ok (.invokespecial 27, 3) := by decide +kernel
theorem pd___CIILjava_lang_Void__V : parseMethodDescriptor "([CIILjava/lang/Void;)V" = some ⟨[(.array .char), .int, .int, (.object "java/lang/Void")], none⟩ := by decide +kernel
theorem d2_9 : decode jdk_42_method_3_code 9 = .ok (.return_, 1) := by decide +kernel
def Q_str_i1_0 (Z : State) (a : Addr) (s' : Addr) (u2 : Value) (ks : ClassId) (h0 : Heap) (n0 : Nat) (v : Option Value) (h : Heap) (L : List Loc) : Prop := v = none ∧ Fr n0 L ∧ Keep h0 h [a] ∧ Str Z h a 0 []
theorem ef_str_i1_0 (m : MethodId) (a : Addr) (s' : Addr)  : entryFrame m #[(.ref a), (.ref s')] 2 = mkF m 0 #[.val (.ref a), .val (.ref s')] [] := by first | (simp [entryFrame, mkF, argsToLocals, Value.category]; done) | rfl
theorem str_i1_0 (l : Launch) (Z : State) (a0 : Array Value) (hw : TW a0 Z) (ws : List Jvm.Cond) (a : Addr) (s' : Addr) (u2 : Value) (ks : ClassId) (h0 : Heap) (n0 : Nat) (Z0 : n0 ≤ h0.size) (E : Exa Z h0 a "java/lang/String") (F : Fld Z h0 a "java/lang/String" "value" "[B" .null) (F2 : Fld Z h0 a "java/lang/String" "coder" "B" u2) (g : n0 ≤ a) (Vs : Arv Z h0 s' ks .char 0 [] (.int 0)) :
    own_MFH l Z MN3 jdk_42_method_3_code 2 none ws (own_R 2 4 8 29) #[(.ref a), (.ref s')] h0 (Q_str_i1_0 Z a s' u2 ks h0 n0) := by
  have wd := @own_wd _ _ hw
  refine MetFree.of_bodySF (plainFor_of_name pn_java_lang_String) hisR ?_
  intro p e s m args below meth c s₁ Bd hml0 hP hK
  obtain ⟨rfl, hZ, hh, hCH⟩ := hP
  have hx := Bd.exec
  have hby := Bd.bytes
  have hml : c.maxLocals = 2 := hml0
  have hown : s.vm.findClass "java/lang/String" = some m.cls := findClass_of_methodNamed Bd.named
  have hnm := (name_of_methodNamed Bd.named Bd.method).1
  have X0 : Stand p l e (own_R 2 4 8 29) (s.setVm s.vm) m #[(.ref a), (.ref s')] below meth c s₁ [] 0 0 := Stand.of_body Bd
  have e0 : s₁.heap = h0 := by rw [← hh, Bd.state]; rfl
  have N0 := Fr.nil n0
  have hS : s.Since s.vm 0 := (State.WarmedH.refl s).since 0
  have hh0 := hh
  have hEL := own_EW hw
  have HC0 := CHr.refl hCH
  have lta := own_nlt (E.lt)
  refine go_of (A := s₁.setTop (entryFrame m #[(.ref a), (.ref s')] 2)) (B := s₁.setTop (mkF m 0 #[.val (.ref a), .val (.ref s')] [])) (fun _ kk' => castTop (ef_str_i1_0 m a s') kk') ?_
  refine go_of (B := (s₁.setTop (mkF m 4 #[.val (.ref a), .val (.ref s')] [(.ref s'), (.int (0 : Int32)), (.ref s'), (.ref a)]))) (fun _ kk => XS.aloadN X0.here hx rfl (hb hby d2_0) rfl rfl (XS.aloadN X0.here hx rfl (hb hby d2_1) rfl rfl (XS.iconst X0.here hx rfl (hb hby d2_2) (XS.aloadN X0.here hx rfl (hb hby d2_3) rfl rfl kk)))) ?_
  obtain ⟨cl1, Ar1, q1, Sz1, Nn1, Hh1, G1⟩ := id (Vs)
  have ln1 := len_of Sz1 Nn1
  refine go_of (B := (s₁.setTop (mkF m 5 #[.val (.ref a), .val (.ref s')] [(.int (0 : Int32)), (.int (0 : Int32)), (.ref s'), (.ref a)]))) (fun _ kk => X0.arraylength hx (by rw [e0]; exact Ar1.1) (State.isArrayOf_alike hZ.alike Ar1.2.1) (g := (mkF m 4 #[.val (.ref a), .val (.ref s')] [(.ref s'), (.int (0 : Int32)), (.ref s'), (.ref a)])) rfl rfl (hb hby d2_4) _ (by rw [ln1]; exact kk)) ?_
  refine go_of (B := (s₁.setTop (mkF m 6 #[.val (.ref a), .val (.ref s')] [.null, (.int (0 : Int32)), (.int (0 : Int32)), (.ref s'), (.ref a)]))) (fun _ kk => XS.aconstNull X0.here hx rfl (hb hby d2_5) kk) ?_
  obtain ⟨_, _, ⟨T2, L2, k2, n2⟩, -, X2', hS2', gr2, ⟨Lc2, hQ2, l2, y2, z2, HR2⟩, st2⟩ := X0.specialBackS hx (y := MN4) rfl hown (mvT hZ (wd 12 rfl)) (mvT hZ (wd 13 rfl)) (mvT hZ (wd 15 rfl)) (by decide) (backOfSH (W := 0) (str_i4_0 l Z a0 hw [] a s' u2 h0 n0 Z0 E F F2 g) hZ (wd 15 rfl) (wd 3 rfl) (by decide) (by decide) hEL HC0.1) (g := (mkF m 6 #[.val (.ref a), .val (.ref s')] [.null, (.int (0 : Int32)), (.int (0 : Int32)), (.ref s'), (.ref a)])) rfl (by rw [hml]; rfl) (Steps.refl _) (a := a) (argsL := [(.ref s'), (.int (0 : Int32)), (.int (0 : Int32)), .null]) (rest := []) (lenOf pd___CIILjava_lang_Void__V rfl) rfl (by show 2 * 0 + _ ≤ _; exact Nat.le_of_eq rfl) (hb hby d2_6) (fun _ _ => ⟨rfl, e0, (by decide : 0 + 4 ≤ _), (by decide : 0 + 8 ≤ _)⟩)
  dsimp only [Pt.U, Pt.locs, Pt.cells, Pt.slots] at X2' hS2' gr2 l2 y2 z2 st2 hQ2 HR2
  subst l2 y2 z2
  have X2 : Stand _ _ _ _ (s.setVm T2.vm) _ _ _ _ _ T2 _ _ _ := X2'
  have hS : s.Since T2.vm T2.heap.size := foldS hS (by rw [e0]; omega) hS2' gr2
  have hZ : Z.Warmed39 (s.setVm T2.vm).vm := State.Warmed39.trans (t := s.setVm s.vm) hZ hS2'.1
  have hown : (s.setVm T2.vm).vm.findClass "java/lang/String" = some m.cls := by rw [show (s.setVm T2.vm).vm = T2.vm from rfl, hS2'.1.alike.findClass]; exact hown
  obtain ⟨rfl, N2q, K2, S2⟩ := hQ2
  have N2 := Fr.app N0 N2q
  have sz2 := K2.1
  have HC2 := HC0.trans HR2
  refine go_tr (B := (T2.setTop (mkF m 9 #[.val (.ref a), .val (.ref s')] []))) (st2) ?_
  refine go_endH X2 hZ hEL HC2 hh0 rfl hS (by first | omega | exact own_ne (by omega) | exact own_le (by omega) | exact own_lt (by omega)) (v := none) (fun _ => rfl) Bd.notSynchronized (by decide) (by decide) (Q := (Q_str_i1_0 Z a s' u2 ks h0 n0)) ?_ (fun fs hr => X2.returnOut hx Bd.returns (hb hby d2_9) hr)
  unfold Q_str_i1_0
  exact ⟨rfl, N2, ((Keep.refl h0 [a]).trans K2 (allS (Or.inl (List.mem_of_getElem? (i := 0) rfl)) all0)), S2⟩
theorem d8_0 : decode jdk_52_method_21_code 0 = .ok (.iconst 0, 1) := by decide +kernel
theorem d8_1 : decode jdk_52_method_21_code 1 = .ok (.istore 5, 2) := by decide +kernel
theorem d8_3 : decode jdk_52_method_21_code 3 = .ok (.iload 5, 2) := by decide +kernel
theorem d8_5 : decode jdk_52_method_21_code 5 = .ok (.iload 4, 2) := by decide +kernel
theorem d8_7 : decode jdk_52_method_21_code 7 = .ok (.if_icmp .ge 37, 3) := by decide +kernel
theorem d8_10 : decode jdk_52_method_21_code 10 = .ok (.aload_n 0, 1) := by decide +kernel
theorem d8_11 : decode jdk_52_method_21_code 11 = .ok (.iload_n 1, 1) := by decide +kernel
theorem d8_12 : decode jdk_52_method_21_code 12 = .ok (.caload, 1) := by decide +kernel
theorem d8_13 : decode jdk_52_method_21_code 13 = .ok (.istore 6, 2) := by decide +kernel
theorem d8_15 : decode jdk_52_method_21_code 15 = .ok (.iload 6, 2) := by decide +kernel
theorem d8_17 : decode jdk_52_method_21_code 17 = .ok (.sipush 255, 3) := by decide +kernel
theorem d8_20 : decode jdk_52_method_21_code 20 = .ok (.if_icmp .le 6, 3) := by decide +kernel
theorem d8_23 : decode jdk_52_method_21_code 23 = .ok (.iload 5, 2) := by decide +kernel
theorem d8_25 : decode jdk_52_method_21_code 25 = .ok (.ireturn, 1) := by decide +kernel
def Q_u_c5_1 (Z : State) (s' : Addr) (d : Addr) (c0 : Int32) (ks : ClassId) (kd : ClassId) (h0 : Heap) (n0 : Nat) (v : Option Value) (h : Heap) (L : List Loc) : Prop := ∃ r : Int32, v = some (.int r) ∧ Fr n0 L ∧ Keep h0 h [d] ∧ ((r = 1 ∧ ¬ (255 : Int32) < c0 ∧ Arv Z h d kd .byte 1 [(.int (own_b8 c0))] (.int 0)) ∨ (r = 0 ∧ (255 : Int32) < c0))
theorem d8_26 : decode jdk_52_method_21_code 26 = .ok (.aload_n 2, 1) := by decide +kernel
theorem d8_27 : decode jdk_52_method_21_code 27 = .ok (.iload_n 3, 1) := by decide +kernel
theorem d8_28 : decode jdk_52_method_21_code 28 = .ok (.iload 6, 2) := by decide +kernel
theorem d8_30 : decode jdk_52_method_21_code 30 = .ok (.i2b, 1) := by decide +kernel
theorem d8_31 : decode jdk_52_method_21_code 31 = .ok (.bastore, 1) := by decide +kernel
theorem d8_32 : decode jdk_52_method_21_code 32 = .ok (.iinc 1 1, 3) := by decide +kernel
theorem d8_35 : decode jdk_52_method_21_code 35 = .ok (.iinc 3 1, 3) := by decide +kernel
theorem d8_38 : decode jdk_52_method_21_code 38 = .ok (.iinc 5 1, 3) := by decide +kernel
theorem d8_41 : decode jdk_52_method_21_code 41 = .ok (.goto (-38), 3) := by decide +kernel
theorem d8_44 : decode jdk_52_method_21_code 44 = .ok (.iload 4, 2) := by decide +kernel
theorem d8_46 : decode jdk_52_method_21_code 46 = .ok (.ireturn, 1) := by decide +kernel
theorem ef_u_c5_1 (m : MethodId) (s' : Addr) (d : Addr)  : entryFrame m #[(.ref s'), (.int (0 : Int32)), (.ref d), (.int (0 : Int32)), (.int (1 : Int32))] 7 = mkF m 0 #[.val (.ref s'), .val (.int (0 : Int32)), .val (.ref d), .val (.int (0 : Int32)), .val (.int (1 : Int32)), .unset, .unset] [] := by first | (simp [entryFrame, mkF, argsToLocals, Value.category]; done) | rfl
theorem u_c5_1 (l : Launch) (Z : State) (a0 : Array Value) (hw : TW a0 Z) (ws : List Jvm.Cond) (s' : Addr) (d : Addr) (c0 : Int32) (ks : ClassId) (kd : ClassId) (h0 : Heap) (n0 : Nat) (Z0 : n0 ≤ h0.size) (Vs : Arv Z h0 s' ks .char 1 [(.int c0)] (.int 0)) (Vd : Arv Z h0 d kd .byte 1 [(.int 0)] (.int 0)) (nsd : s' ≠ d) (g : n0 ≤ d) :
    own_MF l Z MN13 jdk_52_method_21_code 7 (some .int) ws (own_R 0 0 0 0) #[(.ref s'), (.int (0 : Int32)), (.ref d), (.int (0 : Int32)), (.int (1 : Int32))] h0 (Q_u_c5_1 Z s' d c0 ks kd h0 n0) := by
  have wd := @own_wd _ _ hw
  refine MetFree.of_bodySF (plainFor_of_name pn_java_lang_StringUTF16) hisR ?_
  intro p e s m args below meth c s₁ Bd hml0 hP hK
  obtain ⟨rfl, hZ, hh⟩ := hP
  have hx := Bd.exec
  have hby := Bd.bytes
  have hml : c.maxLocals = 7 := hml0
  have hown : s.vm.findClass "java/lang/StringUTF16" = some m.cls := findClass_of_methodNamed Bd.named
  have hnm := (name_of_methodNamed Bd.named Bd.method).1
  have X0 : Stand p l e (own_R 0 0 0 0) s m #[(.ref s'), (.int (0 : Int32)), (.ref d), (.int (0 : Int32)), (.int (1 : Int32))] below meth c s₁ [] 0 0 := Stand.of_body Bd
  have e0 : s₁.heap = h0 := by rw [← hh, Bd.state]; rfl
  have N0 := Fr.nil n0
  have lts := own_nlt (Vs.lt)
  have ltd := own_nlt (Vd.lt)
  refine go_of (A := s₁.setTop (entryFrame m #[(.ref s'), (.int (0 : Int32)), (.ref d), (.int (0 : Int32)), (.int (1 : Int32))] 7)) (B := s₁.setTop (mkF m 0 #[.val (.ref s'), .val (.int (0 : Int32)), .val (.ref d), .val (.int (0 : Int32)), .val (.int (1 : Int32)), .unset, .unset] [])) (fun _ kk' => castTop (ef_u_c5_1 m s' d) kk') ?_
  refine go_of (B := (s₁.setTop (mkF m 11 #[.val (.ref s'), .val (.int (0 : Int32)), .val (.ref d), .val (.int (0 : Int32)), .val (.int (1 : Int32)), .val (.int (0 : Int32)), .unset] [(.ref s')]))) (fun _ kk => XS.iconst X0.here hx rfl (hb hby d8_0) (XS.istore X0.here hx rfl (hb hby d8_1) rfl rfl (XS.iload X0.here hx rfl (hb hby d8_3) rfl (XS.iload X0.here hx rfl (hb hby d8_5) rfl (XS.icmpNo X0.here hx rfl (hb hby d8_7) rfl (tlt (by decide : (0 : Int32) < (1 : Int32))).2.1 (XS.aloadN X0.here hx rfl (hb hby d8_10) rfl rfl kk)))))) ?_
  refine go_of (B := (s₁.setTop (mkF m 12 #[.val (.ref s'), .val (.int (0 : Int32)), .val (.ref d), .val (.int (0 : Int32)), .val (.int (1 : Int32)), .val (.int (0 : Int32)), .unset] [(.int (0 : Int32)), (.ref s')]))) (fun _ kk => XS.iloadN X0.here hx rfl (hb hby d8_11) rfl kk) ?_
  obtain ⟨cl1, Ar1, q1, Sz1, Nn1, Hh1, G1⟩ := id (Vs)
  refine go_of (B := (s₁.setTop (mkF m 20 #[.val (.ref s'), .val (.int (0 : Int32)), .val (.ref d), .val (.int (0 : Int32)), .val (.int (1 : Int32)), .val (.int (0 : Int32)), .val (.int c0)] [(.int (255 : Int32)), (.int c0)]))) (fun _ kk => X0.caload hx (j := (0 : Int32)) (v := (.int c0)) (by rw [e0]; exact Ar1.1) (State.isArrayOf_alike hZ.alike Ar1.2.1) Ar1.2.2 (inb_of Sz1 ⟨by decide, by decide⟩) (Hh1.at (inb_of Sz1 ⟨by decide, by decide⟩) rfl) (g := (mkF m 12 #[.val (.ref s'), .val (.int (0 : Int32)), .val (.ref d), .val (.int (0 : Int32)), .val (.int (1 : Int32)), .val (.int (0 : Int32)), .unset] [(.int (0 : Int32)), (.ref s')])) rfl rfl (hb hby d8_12) _ (XS.istore X0.here hx rfl (hb hby d8_13) rfl rfl (XS.iload X0.here hx rfl (hb hby d8_15) rfl (XS.sipush X0.here hx rfl (hb hby d8_17) kk)))) ?_
  by_cases hcc2 : (255 : Int32) < c0
  · refine go_of (B := (s₁.setTop (mkF m 25 #[.val (.ref s'), .val (.int (0 : Int32)), .val (.ref d), .val (.int (0 : Int32)), .val (.int (1 : Int32)), .val (.int (0 : Int32)), .val (.int c0)] [(.int (0 : Int32))]))) (fun _ kk => XS.icmpNo X0.here hx rfl (hb hby d8_20) rfl (tlt hcc2).2.2.2 (XS.iload X0.here hx rfl (hb hby d8_23) rfl kk)) ?_
    refine go_end X0 (v := some (.int (0 : Int32))) (fun h => by rw [Bd.returns] at h; cases h) Bd.notSynchronized (by decide) (by decide) (Q := (Q_u_c5_1 Z s' d c0 ks kd h0 n0)) ?_ (fun fs hr => own_retI X0 hx Bd.returns (hb hby d8_25) hr)
    unfold Q_u_c5_1
    try rw [e0]
    exact ⟨_, rfl, N0, (Keep.refl h0 [d]), Or.inr (⟨rfl, hcc2⟩)⟩
  · refine go_of (B := (s₁.setTop (mkF m 31 #[.val (.ref s'), .val (.int (0 : Int32)), .val (.ref d), .val (.int (0 : Int32)), .val (.int (1 : Int32)), .val (.int (0 : Int32)), .val (.int c0)] [(.int (c0.toInt8.toInt32)), (.int (0 : Int32)), (.ref d)]))) (fun _ kk => XS.icmpYes X0.here hx rfl (pc0 := 20) (pc' := 26) rfl (hb hby d8_20) rfl (flt hcc2).2.2.2 (by decide) (by decide) (XS.aloadN X0.here hx rfl (hb hby d8_26) rfl rfl (XS.iloadN X0.here hx rfl (hb hby d8_27) rfl (XS.iload X0.here hx rfl (hb hby d8_28) rfl (XS.i2b X0.here hx rfl (hb hby d8_30) rfl kk))))) ?_
    obtain ⟨cl3, Ar3, q3, Sz3, Nn3, Hh3, G3⟩ := id (Vd)
    obtain ⟨T4, h4, X4, e4, W4, st4⟩ := stB X0 hx hZ e0 Ar3 (j := (0 : Int32)) (inb_of Sz3 ⟨by decide, by decide⟩) (g := (mkF m 31 #[.val (.ref s'), .val (.int (0 : Int32)), .val (.ref d), .val (.int (0 : Int32)), .val (.int (1 : Int32)), .val (.int (0 : Int32)), .val (.int c0)] [(.int (c0.toInt8.toInt32)), (.int (0 : Int32)), (.ref d)])) rfl rfl (hb hby d8_31)
    have sz4 := W4.size
    have N4 := Fr.snoc X4 N0 (g : n0 ≤ d)
    have V4 : Arv Z h4 d kd .byte (1 : Int32) [(.int ((c0.toInt8.toInt32).toInt8.toInt32))] (.int (0 : Int32)) := Arv.set Ar3 q3 Sz3 Nn3 Hh3 G3 (fits_nar_byte _) W4 0 rfl (Nat.le_of_ble_eq_true rfl)
    rw [own_bb] at V4
    refine go_of (B := (T4.setTop (mkF m 32 #[.val (.ref s'), .val (.int (0 : Int32)), .val (.ref d), .val (.int (0 : Int32)), .val (.int (1 : Int32)), .val (.int (0 : Int32)), .val (.int c0)] []))) (st4) ?_
    refine go_of (B := (T4.setTop (mkF m 7 #[.val (.ref s'), .val (.int (1 : Int32)), .val (.ref d), .val (.int (1 : Int32)), .val (.int (1 : Int32)), .val (.int (1 : Int32)), .val (.int c0)] [(.int (1 : Int32)), (.int (1 : Int32))]))) (fun _ kk => XS.iinc X4.here hx rfl (hb hby d8_32) rfl rfl (XS.iinc X4.here hx rfl (hb hby d8_35) rfl rfl (XS.iinc X4.here hx rfl (hb hby d8_38) rfl rfl (XS.goto X4.here hx rfl (pc0 := 41) (pc' := 3) rfl (hb hby d8_41) (by decide) (by decide) (XS.iload X4.here hx rfl (hb hby d8_3) rfl (XS.iload X4.here hx rfl (hb hby d8_5) rfl kk)))))) ?_
    refine go_of (B := (T4.setTop (mkF m 46 #[.val (.ref s'), .val (.int (1 : Int32)), .val (.ref d), .val (.int (1 : Int32)), .val (.int (1 : Int32)), .val (.int (1 : Int32)), .val (.int c0)] [(.int (1 : Int32))]))) (fun _ kk => XS.icmpYes X4.here hx rfl (pc0 := 7) (pc' := 44) rfl (hb hby d8_7) rfl (flt (by decide : ¬ ((1 : Int32) < (1 : Int32)))).2.1 (by decide) (by decide) (XS.iload X4.here hx rfl (hb hby d8_44) rfl kk)) ?_
    refine go_end X4 (v := some (.int (1 : Int32))) (fun h => by rw [Bd.returns] at h; cases h) Bd.notSynchronized (by decide) (by decide) (Q := (Q_u_c5_1 Z s' d c0 ks kd h0 n0)) ?_ (fun fs hr => own_retI X4 hx Bd.returns (hb hby d8_46) hr)
    unfold Q_u_c5_1
    try rw [e4]
    exact ⟨_, rfl, N4, ((Keep.refl h0 [d]).wr W4 (Or.inl (List.mem_of_getElem? (i := 0) rfl))), Or.inl ⟨rfl, hcc2, V4⟩⟩
theorem d20_0 : decode jdk_52_method_3_code 0 = .ok (.iload_n 0, 1) := by decide +kernel
theorem d20_1 : decode jdk_52_method_3_code 1 = .ok (.ifCond .ge 11, 3) := by decide +kernel
theorem d20_12 : decode jdk_52_method_3_code 12 = .ok (.iload_n 0, 1) := by decide +kernel
theorem d20_13 : decode jdk_52_method_3_code 13 = .ok (.ldc 20, 2) := by decide +kernel
theorem d20_15 : decode jdk_52_method_3_code 15 = .ok (.if_icmp .lt 40, 3) := by decide +kernel
theorem d20_55 : decode jdk_52_method_3_code 55 = .ok (.iload_n 0, 1) := by decide +kernel
theorem d20_56 : decode jdk_52_method_3_code 56 = .ok (.iconst 1, 1) := by decide +kernel
theorem d20_57 : decode jdk_52_method_3_code 57 = .ok (.ishl, 1) := by decide +kernel
theorem d20_58 : decode jdk_52_method_3_code 58 = .ok (.ireturn, 1) := by decide +kernel
def Q_u_nbl_1 (Z : State)  (h0 : Heap) (n0 : Nat) (v : Option Value) (h : Heap) (L : List Loc) : Prop := v = some (.int 2) ∧ Fr n0 L ∧ h = h0
theorem ef_u_nbl_1 (m : MethodId)   : entryFrame m #[(.int (1 : Int32))] 1 = mkF m 0 #[.val (.int (1 : Int32))] [] := by first | (simp [entryFrame, mkF, argsToLocals, Value.category]; done) | rfl
theorem u_nbl_1 (l : Launch) (Z : State) (a0 : Array Value) (hw : TW a0 Z) (ws : List Jvm.Cond)  (h0 : Heap) (n0 : Nat) (Z0 : n0 ≤ h0.size)  :
    own_MF l Z MN16 jdk_52_method_3_code 1 (some .int) ws (own_R 0 0 0 0) #[(.int (1 : Int32))] h0 (Q_u_nbl_1 Z  h0 n0) := by
  have wd := @own_wd _ _ hw
  refine MetFree.of_bodySF (plainFor_of_name pn_java_lang_StringUTF16) hisR ?_
  intro p e s m args below meth c s₁ Bd hml0 hP hK
  obtain ⟨rfl, hZ, hh⟩ := hP
  have hx := Bd.exec
  have hby := Bd.bytes
  have hml : c.maxLocals = 1 := hml0
  have hown : s.vm.findClass "java/lang/StringUTF16" = some m.cls := findClass_of_methodNamed Bd.named
  have hnm := (name_of_methodNamed Bd.named Bd.method).1
  have X0 : Stand p l e (own_R 0 0 0 0) s m #[(.int (1 : Int32))] below meth c s₁ [] 0 0 := Stand.of_body Bd
  have e0 : s₁.heap = h0 := by rw [← hh, Bd.state]; rfl
  have N0 := Fr.nil n0
  refine go_of (A := s₁.setTop (entryFrame m #[(.int (1 : Int32))] 1)) (B := s₁.setTop (mkF m 0 #[.val (.int (1 : Int32))] [])) (fun _ kk' => castTop (ef_u_nbl_1 m ) kk') ?_
  refine go_of (B := (s₁.setTop (mkF m 56 #[.val (.int (1 : Int32))] [(.int (1 : Int32))]))) (fun _ kk => XS.iloadN X0.here hx rfl (hb hby d20_0) rfl (XS.ifYes X0.here hx rfl (pc0 := 1) (pc' := 12) rfl (hb hby d20_1) rfl ((if0 _ _).trans (flt (by decide : ¬ ((1 : Int32) < (0 : Int32)))).2.1) (by decide) (by decide) (XS.iloadN X0.here hx rfl (hb hby d20_12) rfl (X0.ldcInt hx hown (mvT hZ (wd 91 rfl)) (g := (mkF m 13 #[.val (.int (1 : Int32))] [(.int (1 : Int32))])) rfl (hb hby d20_13) _ (XS.icmpYes X0.here hx rfl (pc0 := 15) (pc' := 55) rfl (hb hby d20_15) rfl (tlt (by decide : (1 : Int32) < (1073741823 : Int32))).1 (by decide) (by decide) (XS.iloadN X0.here hx rfl (hb hby d20_55) rfl kk)))))) ?_
  refine go_of (B := (s₁.setTop (mkF m 58 #[.val (.int (1 : Int32))] [(.int (2 : Int32))]))) (fun _ kk => XS.iconst X0.here hx rfl (hb hby d20_56) (XS.ishl X0.here hx rfl (hb hby d20_57) rfl kk)) ?_
  refine go_end X0 (v := some (.int (2 : Int32))) (fun h => by rw [Bd.returns] at h; cases h) Bd.notSynchronized (by decide) (by decide) (Q := (Q_u_nbl_1 Z  h0 n0)) ?_ (fun fs hr => own_retI X0 hx Bd.returns (hb hby d20_58) hr)
  unfold Q_u_nbl_1
  try rw [e0]
  exact ⟨rfl, N0, rfl⟩
theorem d19_0 : decode jdk_52_method_2_code 0 = .ok (.iload_n 0, 1) := by decide +kernel
theorem d19_1 : decode jdk_52_method_2_code 1 = .ok (.invokestatic 11, 3) := by decide +kernel
theorem pd__I_I : parseMethodDescriptor "(I)I" = some ⟨[.int], some .int⟩ := by decide +kernel
theorem d19_4 : decode jdk_52_method_2_code 4 = .ok (.newarray .byte, 2) := by decide +kernel
theorem d19_6 : decode jdk_52_method_2_code 6 = .ok (.areturn, 1) := by decide +kernel
def Q_u_nbf_1 (Z : State)  (h0 : Heap) (n0 : Nat) (v : Option Value) (h : Heap) (L : List Loc) : Prop := ∃ (t : Addr) (k : ClassId), v = some (.ref t) ∧ Fr n0 L ∧ h0.size ≤ t ∧ Keep h0 h [] ∧ Arv Z h t k .byte 2 [(.int 0), (.int 0)] (.int 0)
theorem ef_u_nbf_1 (m : MethodId)   : entryFrame m #[(.int (1 : Int32))] 1 = mkF m 0 #[.val (.int (1 : Int32))] [] := by first | (simp [entryFrame, mkF, argsToLocals, Value.category]; done) | rfl
theorem u_nbf_1 (l : Launch) (Z : State) (a0 : Array Value) (hw : TW a0 Z) (ws : List Jvm.Cond)  (h0 : Heap) (n0 : Nat) (Z0 : n0 ≤ h0.size)  :
    own_MF l Z MN15 jdk_52_method_2_code 1 (some (.array .byte)) ws (own_R 1 1 2 12) #[(.int (1 : Int32))] h0 (Q_u_nbf_1 Z  h0 n0) := by
  have wd := @own_wd _ _ hw
  refine MetFree.of_bodySF (plainFor_of_name pn_java_lang_StringUTF16) hisR ?_
  intro p e s m args below meth c s₁ Bd hml0 hP hK
  obtain ⟨rfl, hZ, hh⟩ := hP
  have hx := Bd.exec
  have hby := Bd.bytes
  have hml : c.maxLocals = 1 := hml0
  have hown : s.vm.findClass "java/lang/StringUTF16" = some m.cls := findClass_of_methodNamed Bd.named
  have hnm := (name_of_methodNamed Bd.named Bd.method).1
  have X0 : Stand p l e (own_R 1 1 2 12) s m #[(.int (1 : Int32))] below meth c s₁ [] 0 0 := Stand.of_body Bd
  have e0 : s₁.heap = h0 := by rw [← hh, Bd.state]; rfl
  have N0 := Fr.nil n0
  refine go_of (A := s₁.setTop (entryFrame m #[(.int (1 : Int32))] 1)) (B := s₁.setTop (mkF m 0 #[.val (.int (1 : Int32))] [])) (fun _ kk' => castTop (ef_u_nbf_1 m ) kk') ?_
  refine go_of (B := (s₁.setTop (mkF m 1 #[.val (.int (1 : Int32))] [(.int (1 : Int32))]))) (fun _ kk => XS.iloadN X0.here hx rfl (hb hby d19_0) rfl kk) ?_
  obtain ⟨_, _, ⟨T1, L1, k1, n1⟩, -, X1, ⟨Lc1, hQ1, l1, y1, z1⟩, st1⟩ := Jvm.LawKit.callS X0 hx (y := MN16) hown (mvT hZ (wd 88 rfl)) (mvT hZ (wd 89 rfl)) (mvT hZ (wd 39 rfl)) (mvT hZ (wd 90 rfl)) (by decide) (backOf (W := 0) (u_nbl_1 l Z a0 hw [] h0 n0 (by first | omega | exact own_ne (by omega) | exact own_le (by omega) | exact own_lt (by omega))) hZ (wd 90 rfl) (wd 39 rfl) (by decide) (by decide)) (g := (mkF m 1 #[.val (.int (1 : Int32))] [(.int (1 : Int32))])) rfl (by rw [hml]; rfl) (argsL := [(.int (1 : Int32))]) (rest := []) (lenOf pd__I_I rfl) rfl (by show 2 * 0 + _ ≤ _; exact Nat.le_of_eq rfl) (hb hby d19_1) (fun _ _ => ⟨rfl, e0, (by decide : 0 + 0 ≤ _), (by decide : 0 + 0 ≤ _)⟩)
  dsimp only [Pt.U, Pt.locs, Pt.cells, Pt.slots] at X1 l1 y1 z1 st1 hQ1
  subst l1 y1 z1
  obtain ⟨rfl, N1q, e1⟩ := hQ1
  have N1 := Fr.app N0 N1q
  refine go_of (B := (T1.setTop (mkF m 4 #[.val (.int (1 : Int32))] [(.int (2 : Int32))]))) (st1) ?_
  obtain ⟨T2, h2, k2, X2, e2, E2, A2, st2⟩ := newP X1 hx hZ (wd 20 rfl) e1 (g := (mkF m 4 #[.val (.int (1 : Int32))] [(.int (2 : Int32))])) rfl (hb hby d19_4) rfl (by decide) (cap := 2) (by decide) (by decide) (by decide) (by decide)
  obtain ⟨b2, g2⟩ : ∃ z, z = h0.size := ⟨_, rfl⟩
  rw [← g2] at A2 st2
  have hi2 := own_nlt A2.lt
  have sz2 := E2.1
  have V2 : Arv Z h2 b2 k2 .byte (2 : Int32) [(.int (0 : Int32)), (.int (0 : Int32))] (.int (0 : Int32)) := (Arv.new A2 (by decide)).pad (pad_rep [] (.int (0 : Int32)) 2)
  refine go_of (B := (T2.setTop (mkF m 6 #[.val (.int (1 : Int32))] [(.ref b2)]))) (st2) ?_
  refine go_end X2 (v := some (.ref b2)) (fun h => by rw [Bd.returns] at h; cases h) Bd.notSynchronized (by decide) (by decide) (Q := (Q_u_nbf_1 Z  h0 n0)) ?_ (fun fs hr => own_retA X2 hx Bd.returns rfl rfl (hb hby d19_6) hr)
  unfold Q_u_nbf_1
  try rw [e2]
  exact ⟨b2, k2, rfl, N1, by omega, ((Keep.refl h0 []).ext E2), V2⟩
theorem d21_0 : decode jdk_52_method_4_code 0 = .ok (.getstatic 44, 3) := by decide +kernel
theorem d21_3 : decode jdk_52_method_4_code 3 = .ok (.ifCond .ne 25, 3) := by decide +kernel
theorem d21_28 : decode jdk_52_method_4_code 28 = .ok (.iload_n 1, 1) := by decide +kernel
theorem d21_29 : decode jdk_52_method_4_code 29 = .ok (.iconst 1, 1) := by decide +kernel
theorem d21_30 : decode jdk_52_method_4_code 30 = .ok (.ishl, 1) := by decide +kernel
theorem d21_31 : decode jdk_52_method_4_code 31 = .ok (.istore_n 1, 1) := by decide +kernel
theorem d21_32 : decode jdk_52_method_4_code 32 = .ok (.aload_n 0, 1) := by decide +kernel
theorem d21_33 : decode jdk_52_method_4_code 33 = .ok (.iload_n 1, 1) := by decide +kernel
theorem d21_34 : decode jdk_52_method_4_code 34 = .ok (.iinc 1 1, 3) := by decide +kernel
theorem d21_37 : decode jdk_52_method_4_code 37 = .ok (.iload_n 2, 1) := by decide +kernel
theorem d21_38 : decode jdk_52_method_4_code 38 = .ok (.getstatic 59, 3) := by decide +kernel
theorem d21_41 : decode jdk_52_method_4_code 41 = .ok (.ishr, 1) := by decide +kernel
theorem d21_42 : decode jdk_52_method_4_code 42 = .ok (.i2b, 1) := by decide +kernel
theorem d21_43 : decode jdk_52_method_4_code 43 = .ok (.bastore, 1) := by decide +kernel
theorem d21_44 : decode jdk_52_method_4_code 44 = .ok (.aload_n 0, 1) := by decide +kernel
theorem d21_45 : decode jdk_52_method_4_code 45 = .ok (.iload_n 1, 1) := by decide +kernel
theorem d21_46 : decode jdk_52_method_4_code 46 = .ok (.iload_n 2, 1) := by decide +kernel
theorem d21_47 : decode jdk_52_method_4_code 47 = .ok (.getstatic 63, 3) := by decide +kernel
theorem d21_50 : decode jdk_52_method_4_code 50 = .ok (.ishr, 1) := by decide +kernel
theorem d21_51 : decode jdk_52_method_4_code 51 = .ok (.i2b, 1) := by decide +kernel
theorem d21_52 : decode jdk_52_method_4_code 52 = .ok (.bastore, 1) := by decide +kernel
theorem d21_53 : decode jdk_52_method_4_code 53 = .ok (.return_, 1) := by decide +kernel
def Q_u_put (Z : State) (t : Addr) (ii : Int32) (ch : Int32) (mm : Int32) (vs : List Value) (ia : Nat) (ib : Nat) (k : ClassId) (h0 : Heap) (n0 : Nat) (v : Option Value) (h : Heap) (L : List Loc) : Prop := v = none ∧ Fr n0 L ∧ Keep h0 h [t] ∧ Arv Z h t k .byte mm ((vs.set ia (.int (own_b0 ch))).set ib (.int (own_b1 ch))) (.int 0)
theorem ef_u_put (m : MethodId) (t : Addr) (ii : Int32) (ch : Int32)  : entryFrame m #[(.ref t), (.int ii), (.int ch)] 3 = mkF m 0 #[.val (.ref t), .val (.int ii), .val (.int ch)] [] := by first | (simp [entryFrame, mkF, argsToLocals, Value.category]; done) | rfl
theorem u_put (l : Launch) (Z : State) (a0 : Array Value) (hw : TW a0 Z) (ws : List Jvm.Cond) (t : Addr) (ii : Int32) (ch : Int32) (mm : Int32) (vs : List Value) (ia : Nat) (ib : Nat) (k : ClassId) (h0 : Heap) (n0 : Nat) (Z0 : n0 ≤ h0.size) (O : Old Z n0 h0) (SU : US Z) (V : Arv Z h0 t k .byte mm vs (.int 0)) (g : n0 ≤ t) (b0 : ¬ (ii <<< ((1 : Int32) &&& 31)) < 0 ∧ (ii <<< ((1 : Int32) &&& 31)) < mm) (b1 : ¬ ((ii <<< ((1 : Int32) &&& 31)) + (1 : Int32)) < 0 ∧ ((ii <<< ((1 : Int32) &&& 31)) + (1 : Int32)) < mm) (j0 : (ii <<< ((1 : Int32) &&& 31)).toNatClampNeg = ia) (j1 : ((ii <<< ((1 : Int32) &&& 31)) + (1 : Int32)).toNatClampNeg = ib) (l0 : ia < vs.length) (l1 : ib < vs.length) :
    own_MF l Z MN17 jdk_52_method_4_code 3 none ws (own_R 0 0 0 0) #[(.ref t), (.int ii), (.int ch)] h0 (Q_u_put Z t ii ch mm vs ia ib k h0 n0) := by
  have wd := @own_wd _ _ hw
  refine MetFree.of_bodySF (plainFor_of_name pn_java_lang_StringUTF16) hisR ?_
  intro p e s m args below meth c s₁ Bd hml0 hP hK
  obtain ⟨rfl, hZ, hh⟩ := hP
  have hx := Bd.exec
  have hby := Bd.bytes
  have hml : c.maxLocals = 3 := hml0
  have hown : s.vm.findClass "java/lang/StringUTF16" = some m.cls := findClass_of_methodNamed Bd.named
  have hnm := (name_of_methodNamed Bd.named Bd.method).1
  have X0 : Stand p l e (own_R 0 0 0 0) s m #[(.ref t), (.int ii), (.int ch)] below meth c s₁ [] 0 0 := Stand.of_body Bd
  have e0 : s₁.heap = h0 := by rw [← hh, Bd.state]; rfl
  have N0 := Fr.nil n0
  have ltt := own_nlt (V.lt)
  refine go_of (A := s₁.setTop (entryFrame m #[(.ref t), (.int ii), (.int ch)] 3)) (B := s₁.setTop (mkF m 0 #[.val (.ref t), .val (.int ii), .val (.int ch)] [])) (fun _ kk' => castTop (ef_u_put m t ii ch) kk') ?_
  obtain ⟨T1, X1, e1, st1⟩ := getS2 X0 hx hZ hown (host := "") (Or.inl (wd 95 rfl)) Via.refl e0 (SU.1.ext O.2) (g := (mkF m 0 #[.val (.ref t), .val (.int ii), .val (.int ch)] [])) rfl (hb hby d21_0)
  refine go_of (B := (T1.setTop (mkF m 3 #[.val (.ref t), .val (.int ii), .val (.int ch)] [(.int (1 : Int32))]))) (st1) ?_
  refine go_of (B := (T1.setTop (mkF m 33 #[.val (.ref t), .val (.int (ii <<< ((1 : Int32) &&& 31))), .val (.int ch)] [(.ref t)]))) (fun _ kk => XS.ifYes X1.here hx rfl (pc0 := 3) (pc' := 28) rfl (hb hby d21_3) rfl ((if0 _ _).trans (feq (by decide : ¬ ((1 : Int32) = (0 : Int32)))).2) (by decide) (by decide) (XS.iloadN X1.here hx rfl (hb hby d21_28) rfl (XS.iconst X1.here hx rfl (hb hby d21_29) (XS.ishl X1.here hx rfl (hb hby d21_30) rfl (XS.istoreN X1.here hx rfl (hb hby d21_31) rfl rfl (XS.aloadN X1.here hx rfl (hb hby d21_32) rfl rfl kk)))))) ?_
  refine go_of (B := (T1.setTop (mkF m 38 #[.val (.ref t), .val (.int ((ii <<< ((1 : Int32) &&& 31)) + (1 : Int32))), .val (.int ch)] [(.int ch), (.int (ii <<< ((1 : Int32) &&& 31))), (.ref t)]))) (fun _ kk => XS.iloadN X1.here hx rfl (hb hby d21_33) rfl (XS.iinc X1.here hx rfl (hb hby d21_34) rfl rfl (XS.iloadN X1.here hx rfl (hb hby d21_37) rfl kk))) ?_
  obtain ⟨T2, X2, e2, st2⟩ := getS2 X1 hx hZ hown (host := "") (Or.inl (wd 96 rfl)) Via.refl e1 (SU.2.1.ext O.2) (g := (mkF m 38 #[.val (.ref t), .val (.int ((ii <<< ((1 : Int32) &&& 31)) + (1 : Int32))), .val (.int ch)] [(.int ch), (.int (ii <<< ((1 : Int32) &&& 31))), (.ref t)])) rfl (hb hby d21_38)
  refine go_of (B := (T2.setTop (mkF m 41 #[.val (.ref t), .val (.int ((ii <<< ((1 : Int32) &&& 31)) + (1 : Int32))), .val (.int ch)] [(.int (0 : Int32)), (.int ch), (.int (ii <<< ((1 : Int32) &&& 31))), (.ref t)]))) (st2) ?_
  refine go_of (B := (T2.setTop (mkF m 43 #[.val (.ref t), .val (.int ((ii <<< ((1 : Int32) &&& 31)) + (1 : Int32))), .val (.int ch)] [(.int ((ch >>> ((0 : Int32) &&& 31)).toInt8.toInt32)), (.int (ii <<< ((1 : Int32) &&& 31))), (.ref t)]))) (fun _ kk => XS.ishr X2.here hx rfl (hb hby d21_41) rfl (XS.i2b X2.here hx rfl (hb hby d21_42) rfl kk)) ?_
  obtain ⟨cl3, Ar3, q3, Sz3, Nn3, Hh3, G3⟩ := id (V)
  obtain ⟨T4, h4, X4, e4, W4, st4⟩ := stB X2 hx hZ e2 Ar3 (j := (ii <<< ((1 : Int32) &&& 31))) (inb_of Sz3 b0) (g := (mkF m 43 #[.val (.ref t), .val (.int ((ii <<< ((1 : Int32) &&& 31)) + (1 : Int32))), .val (.int ch)] [(.int ((ch >>> ((0 : Int32) &&& 31)).toInt8.toInt32)), (.int (ii <<< ((1 : Int32) &&& 31))), (.ref t)])) rfl rfl (hb hby d21_43)
  have sz4 := W4.size
  have N4 := Fr.snoc X4 N0 (g : n0 ≤ t)
  refine go_of (B := (T4.setTop (mkF m 44 #[.val (.ref t), .val (.int ((ii <<< ((1 : Int32) &&& 31)) + (1 : Int32))), .val (.int ch)] []))) (st4) ?_
  have V4 : Arv Z h4 t k .byte mm (vs.set ia (.int (own_b0 ch))) (.int 0) := by
    have q := Arv.set Ar3 q3 Sz3 Nn3 Hh3 G3 (fits_nar_byte _) W4 ia j0 l0
    rw [own_bb] at q
    exact q
  refine go_of (B := (T4.setTop (mkF m 47 #[.val (.ref t), .val (.int ((ii <<< ((1 : Int32) &&& 31)) + (1 : Int32))), .val (.int ch)] [(.int ch), (.int ((ii <<< ((1 : Int32) &&& 31)) + (1 : Int32))), (.ref t)]))) (fun _ kk => XS.aloadN X4.here hx rfl (hb hby d21_44) rfl rfl (XS.iloadN X4.here hx rfl (hb hby d21_45) rfl (XS.iloadN X4.here hx rfl (hb hby d21_46) rfl kk))) ?_
  have cf_5 := (O.wr W4 (by first | omega | exact own_ne (by omega) | exact own_le (by omega) | exact own_lt (by omega)))
  obtain ⟨T6, X6, e6, st6⟩ := getS2 X4 hx hZ hown (host := "") (Or.inl (wd 97 rfl)) Via.refl e4 (SU.2.2.ext cf_5.2) (g := (mkF m 47 #[.val (.ref t), .val (.int ((ii <<< ((1 : Int32) &&& 31)) + (1 : Int32))), .val (.int ch)] [(.int ch), (.int ((ii <<< ((1 : Int32) &&& 31)) + (1 : Int32))), (.ref t)])) rfl (hb hby d21_47)
  refine go_of (B := (T6.setTop (mkF m 50 #[.val (.ref t), .val (.int ((ii <<< ((1 : Int32) &&& 31)) + (1 : Int32))), .val (.int ch)] [(.int (8 : Int32)), (.int ch), (.int ((ii <<< ((1 : Int32) &&& 31)) + (1 : Int32))), (.ref t)]))) (st6) ?_
  refine go_of (B := (T6.setTop (mkF m 52 #[.val (.ref t), .val (.int ((ii <<< ((1 : Int32) &&& 31)) + (1 : Int32))), .val (.int ch)] [(.int ((ch >>> ((8 : Int32) &&& 31)).toInt8.toInt32)), (.int ((ii <<< ((1 : Int32) &&& 31)) + (1 : Int32))), (.ref t)]))) (fun _ kk => XS.ishr X6.here hx rfl (hb hby d21_50) rfl (XS.i2b X6.here hx rfl (hb hby d21_51) rfl kk)) ?_
  obtain ⟨cl7, Ar7, q7, Sz7, Nn7, Hh7, G7⟩ := id (V4)
  obtain ⟨T8, h8, X8, e8, W8, st8⟩ := stB X6 hx hZ e6 Ar7 (j := ((ii <<< ((1 : Int32) &&& 31)) + (1 : Int32))) (inb_of Sz7 b1) (g := (mkF m 52 #[.val (.ref t), .val (.int ((ii <<< ((1 : Int32) &&& 31)) + (1 : Int32))), .val (.int ch)] [(.int ((ch >>> ((8 : Int32) &&& 31)).toInt8.toInt32)), (.int ((ii <<< ((1 : Int32) &&& 31)) + (1 : Int32))), (.ref t)])) rfl rfl (hb hby d21_52)
  have sz8 := W8.size
  have N8 := Fr.snoc X8 N4 (g : n0 ≤ t)
  refine go_of (B := (T8.setTop (mkF m 53 #[.val (.ref t), .val (.int ((ii <<< ((1 : Int32) &&& 31)) + (1 : Int32))), .val (.int ch)] []))) (st8) ?_
  have V8 : Arv Z h8 t k .byte mm ((vs.set ia (.int (own_b0 ch))).set ib (.int (own_b1 ch))) (.int 0) := by
    have q := Arv.set Ar7 q7 Sz7 Nn7 Hh7 G7 (fits_nar_byte _) W8 ib j1 (by rw [List.length_set]; exact l1)
    rw [own_bb] at q
    exact q
  refine go_end X8 (v := none) (fun _ => rfl) Bd.notSynchronized (by decide) (by decide) (Q := (Q_u_put Z t ii ch mm vs ia ib k h0 n0)) ?_ (fun fs hr => X8.returnOut hx Bd.returns (hb hby d21_53) hr)
  unfold Q_u_put
  try rw [e8]
  exact ⟨rfl, N8, (((Keep.refl h0 [t]).wr W4 (Or.inl (List.mem_of_getElem? (i := 0) rfl))).wr W8 (Or.inl (List.mem_of_getElem? (i := 0) rfl))), V8⟩
theorem d18_0 : decode jdk_52_method_14_code 0 = .ok (.iload_n 2, 1) := by decide +kernel
theorem d18_1 : decode jdk_52_method_14_code 1 = .ok (.invokestatic 107, 3) := by decide +kernel
theorem pd__I__B : parseMethodDescriptor "(I)[B" = some ⟨[.int], some (.array .byte)⟩ := by decide +kernel
theorem d18_4 : decode jdk_52_method_14_code 4 = .ok (.astore_n 3, 1) := by decide +kernel
theorem d18_5 : decode jdk_52_method_14_code 5 = .ok (.iconst 0, 1) := by decide +kernel
theorem d18_6 : decode jdk_52_method_14_code 6 = .ok (.istore 4, 2) := by decide +kernel
theorem d18_8 : decode jdk_52_method_14_code 8 = .ok (.iload 4, 2) := by decide +kernel
theorem d18_10 : decode jdk_52_method_14_code 10 = .ok (.iload_n 2, 1) := by decide +kernel
theorem d18_11 : decode jdk_52_method_14_code 11 = .ok (.if_icmp .ge 21, 3) := by decide +kernel
theorem d18_14 : decode jdk_52_method_14_code 14 = .ok (.aload_n 3, 1) := by decide +kernel
theorem d18_15 : decode jdk_52_method_14_code 15 = .ok (.iload 4, 2) := by decide +kernel
theorem d18_17 : decode jdk_52_method_14_code 17 = .ok (.aload_n 0, 1) := by decide +kernel
theorem d18_18 : decode jdk_52_method_14_code 18 = .ok (.iload_n 1, 1) := by decide +kernel
theorem d18_19 : decode jdk_52_method_14_code 19 = .ok (.caload, 1) := by decide +kernel
theorem d18_20 : decode jdk_52_method_14_code 20 = .ok (.invokestatic 111, 3) := by decide +kernel
theorem pd___BII_V : parseMethodDescriptor "([BII)V" = some ⟨[(.array .byte), .int, .int], none⟩ := by decide +kernel
theorem d18_23 : decode jdk_52_method_14_code 23 = .ok (.iinc 1 1, 3) := by decide +kernel
theorem d18_26 : decode jdk_52_method_14_code 26 = .ok (.iinc 4 1, 3) := by decide +kernel
theorem d18_29 : decode jdk_52_method_14_code 29 = .ok (.goto (-21), 3) := by decide +kernel
theorem d18_32 : decode jdk_52_method_14_code 32 = .ok (.aload_n 3, 1) := by decide +kernel
theorem d18_33 : decode jdk_52_method_14_code 33 = .ok (.areturn, 1) := by decide +kernel
def Q_u_tob_1 (Z : State) (s' : Addr) (c0 : Int32) (ks : ClassId) (h0 : Heap) (n0 : Nat) (v : Option Value) (h : Heap) (L : List Loc) : Prop := ∃ (t : Addr) (k : ClassId), v = some (.ref t) ∧ Fr n0 L ∧ h0.size ≤ t ∧ Keep h0 h [] ∧ Arv Z h t k .byte 2 [(.int (own_b0 c0)), (.int (own_b1 c0))] (.int 0)
theorem ef_u_tob_1 (m : MethodId) (s' : Addr)  : entryFrame m #[(.ref s'), (.int (0 : Int32)), (.int (1 : Int32))] 5 = mkF m 0 #[.val (.ref s'), .val (.int (0 : Int32)), .val (.int (1 : Int32)), .unset, .unset] [] := by first | (simp [entryFrame, mkF, argsToLocals, Value.category]; done) | rfl
theorem u_tob_1 (l : Launch) (Z : State) (a0 : Array Value) (hw : TW a0 Z) (ws : List Jvm.Cond) (s' : Addr) (c0 : Int32) (ks : ClassId) (h0 : Heap) (n0 : Nat) (Z0 : n0 ≤ h0.size) (O : Old Z n0 h0) (SU : US Z) (Vs : Arv Z h0 s' ks .char 1 [(.int c0)] (.int 0)) :
    own_MF l Z MN18 jdk_52_method_14_code 5 (some (.array .byte)) ws (own_R 2 1 2 24) #[(.ref s'), (.int (0 : Int32)), (.int (1 : Int32))] h0 (Q_u_tob_1 Z s' c0 ks h0 n0) := by
  have wd := @own_wd _ _ hw
  refine MetFree.of_bodySF (plainFor_of_name pn_java_lang_StringUTF16) hisR ?_
  intro p e s m args below meth c s₁ Bd hml0 hP hK
  obtain ⟨rfl, hZ, hh⟩ := hP
  have hx := Bd.exec
  have hby := Bd.bytes
  have hml : c.maxLocals = 5 := hml0
  have hown : s.vm.findClass "java/lang/StringUTF16" = some m.cls := findClass_of_methodNamed Bd.named
  have hnm := (name_of_methodNamed Bd.named Bd.method).1
  have X0 : Stand p l e (own_R 2 1 2 24) s m #[(.ref s'), (.int (0 : Int32)), (.int (1 : Int32))] below meth c s₁ [] 0 0 := Stand.of_body Bd
  have e0 : s₁.heap = h0 := by rw [← hh, Bd.state]; rfl
  have N0 := Fr.nil n0
  have lts := own_nlt (Vs.lt)
  refine go_of (A := s₁.setTop (entryFrame m #[(.ref s'), (.int (0 : Int32)), (.int (1 : Int32))] 5)) (B := s₁.setTop (mkF m 0 #[.val (.ref s'), .val (.int (0 : Int32)), .val (.int (1 : Int32)), .unset, .unset] [])) (fun _ kk' => castTop (ef_u_tob_1 m s') kk') ?_
  refine go_of (B := (s₁.setTop (mkF m 1 #[.val (.ref s'), .val (.int (0 : Int32)), .val (.int (1 : Int32)), .unset, .unset] [(.int (1 : Int32))]))) (fun _ kk => XS.iloadN X0.here hx rfl (hb hby d18_0) rfl kk) ?_
  obtain ⟨_, _, ⟨T1, L1, k1, n1⟩, -, X1, ⟨Lc1, hQ1, l1, y1, z1⟩, st1⟩ := Jvm.LawKit.callS X0 hx (y := MN15) hown (mvT hZ (wd 85 rfl)) (mvT hZ (wd 86 rfl)) (mvT hZ (wd 39 rfl)) (mvT hZ (wd 87 rfl)) (by decide) (backOf (W := 0) (u_nbf_1 l Z a0 hw [] h0 n0 (by first | omega | exact own_ne (by omega) | exact own_le (by omega) | exact own_lt (by omega))) hZ (wd 87 rfl) (wd 39 rfl) (by decide) (by decide)) (g := (mkF m 1 #[.val (.ref s'), .val (.int (0 : Int32)), .val (.int (1 : Int32)), .unset, .unset] [(.int (1 : Int32))])) rfl (by rw [hml]; rfl) (argsL := [(.int (1 : Int32))]) (rest := []) (lenOf pd__I__B rfl) rfl (by show 2 * 0 + _ ≤ _; exact Nat.le_of_eq rfl) (hb hby d18_1) (fun _ _ => ⟨rfl, e0, (by decide : 0 + 1 ≤ _), (by decide : 0 + 2 ≤ _)⟩)
  dsimp only [Pt.U, Pt.locs, Pt.cells, Pt.slots] at X1 l1 y1 z1 st1 hQ1
  subst l1 y1 z1
  obtain ⟨b1, k1, rfl, N1q, lo1, K1, V1⟩ := hQ1
  have lo1 := own_nle lo1
  have N1 := Fr.app N0 N1q
  have hi1 := own_nlt (V1.lt)
  have sz1 := K1.1
  refine go_of (B := (T1.setTop (mkF m 4 #[.val (.ref s'), .val (.int (0 : Int32)), .val (.int (1 : Int32)), .unset, .unset] [(.ref b1)]))) (st1) ?_
  refine go_of (B := (T1.setTop (mkF m 14 #[.val (.ref s'), .val (.int (0 : Int32)), .val (.int (1 : Int32)), .val (.ref b1), .val (.int (0 : Int32))] []))) (fun _ kk => XS.astoreN X1.here hx rfl (hb hby d18_4) rfl rfl rfl (XS.iconst X1.here hx rfl (hb hby d18_5) (XS.istore X1.here hx rfl (hb hby d18_6) rfl rfl (XS.iload X1.here hx rfl (hb hby d18_8) rfl (XS.iloadN X1.here hx rfl (hb hby d18_10) rfl (XS.icmpNo X1.here hx rfl (hb hby d18_11) rfl (tlt (by decide : (0 : Int32) < (1 : Int32))).2.1 kk)))))) ?_
  refine go_of (B := (T1.setTop (mkF m 19 #[.val (.ref s'), .val (.int (0 : Int32)), .val (.int (1 : Int32)), .val (.ref b1), .val (.int (0 : Int32))] [(.int (0 : Int32)), (.ref s'), (.int (0 : Int32)), (.ref b1)]))) (fun _ kk => XS.aloadN X1.here hx rfl (hb hby d18_14) rfl rfl (XS.iload X1.here hx rfl (hb hby d18_15) rfl (XS.aloadN X1.here hx rfl (hb hby d18_17) rfl rfl (XS.iloadN X1.here hx rfl (hb hby d18_18) rfl kk)))) ?_
  have cf_2 := (Vs.keep K1 nin0)
  obtain ⟨cl3, Ar3, q3, Sz3, Nn3, Hh3, G3⟩ := id (cf_2)
  refine go_of (B := (T1.setTop (mkF m 20 #[.val (.ref s'), .val (.int (0 : Int32)), .val (.int (1 : Int32)), .val (.ref b1), .val (.int (0 : Int32))] [(.int c0), (.int (0 : Int32)), (.ref b1)]))) (fun _ kk => X1.caload hx (j := (0 : Int32)) (v := (.int c0)) (by exact Ar3.1) (State.isArrayOf_alike hZ.alike Ar3.2.1) Ar3.2.2 (inb_of Sz3 ⟨by decide, by decide⟩) (Hh3.at (inb_of Sz3 ⟨by decide, by decide⟩) rfl) (g := (mkF m 19 #[.val (.ref s'), .val (.int (0 : Int32)), .val (.int (1 : Int32)), .val (.ref b1), .val (.int (0 : Int32))] [(.int (0 : Int32)), (.ref s'), (.int (0 : Int32)), (.ref b1)])) rfl rfl (hb hby d18_19) _ kk) ?_
  have cf_4 := (O.keep K1 all0)
  obtain ⟨_, _, ⟨T5, L5, k5, n5⟩, -, X5, ⟨Lc5, hQ5, l5, y5, z5⟩, st5⟩ := Jvm.LawKit.callS X1 hx (y := MN17) hown (mvT hZ (wd 92 rfl)) (mvT hZ (wd 93 rfl)) (mvT hZ (wd 39 rfl)) (mvT hZ (wd 94 rfl)) (by decide) (backOf (W := 0) (u_put l Z a0 hw [] b1 (0 : Int32) c0 (2 : Int32) _ 0 1 k1 T1.heap n0 (by first | omega | exact own_ne (by omega) | exact own_le (by omega) | exact own_lt (by omega)) cf_4 SU V1 (by first | omega | exact own_ne (by omega) | exact own_le (by omega) | exact own_lt (by omega)) (by decide) (by decide) rfl rfl (Nat.le_of_ble_eq_true rfl) (Nat.le_of_ble_eq_true rfl)) hZ (wd 94 rfl) (wd 39 rfl) (by decide) (by decide)) (g := (mkF m 20 #[.val (.ref s'), .val (.int (0 : Int32)), .val (.int (1 : Int32)), .val (.ref b1), .val (.int (0 : Int32))] [(.int c0), (.int (0 : Int32)), (.ref b1)])) rfl (by rw [hml]; rfl) (argsL := [(.ref b1), (.int (0 : Int32)), (.int c0)]) (rest := []) (lenOf pd___BII_V rfl) rfl (by show 2 * 0 + _ ≤ _; exact Nat.le_of_eq rfl) (hb hby d18_20) (fun _ _ => ⟨rfl, rfl, (by decide : 1 + 0 ≤ _), (by decide : 2 + 0 ≤ _)⟩)
  dsimp only [Pt.U, Pt.locs, Pt.cells, Pt.slots] at X5 l5 y5 z5 st5 hQ5
  subst l5 y5 z5
  obtain ⟨rfl, N5q, K5, V5⟩ := hQ5
  have N5 := Fr.app N1 N5q
  have sz5 := K5.1
  refine go_of (B := (T5.setTop (mkF m 23 #[.val (.ref s'), .val (.int (0 : Int32)), .val (.int (1 : Int32)), .val (.ref b1), .val (.int (0 : Int32))] []))) (st5) ?_
  refine go_of (B := (T5.setTop (mkF m 32 #[.val (.ref s'), .val (.int (1 : Int32)), .val (.int (1 : Int32)), .val (.ref b1), .val (.int (1 : Int32))] []))) (fun _ kk => XS.iinc X5.here hx rfl (hb hby d18_23) rfl rfl (XS.iinc X5.here hx rfl (hb hby d18_26) rfl rfl (XS.goto X5.here hx rfl (pc0 := 29) (pc' := 8) rfl (hb hby d18_29) (by decide) (by decide) (XS.iload X5.here hx rfl (hb hby d18_8) rfl (XS.iloadN X5.here hx rfl (hb hby d18_10) rfl (XS.icmpYes X5.here hx rfl (pc0 := 11) (pc' := 32) rfl (hb hby d18_11) rfl (flt (by decide : ¬ ((1 : Int32) < (1 : Int32)))).2.1 (by decide) (by decide) kk)))))) ?_
  refine go_of (B := (T5.setTop (mkF m 33 #[.val (.ref s'), .val (.int (1 : Int32)), .val (.int (1 : Int32)), .val (.ref b1), .val (.int (1 : Int32))] [(.ref b1)]))) (fun _ kk => XS.aloadN X5.here hx rfl (hb hby d18_32) rfl rfl kk) ?_
  refine go_end X5 (v := some (.ref b1)) (fun h => by rw [Bd.returns] at h; cases h) Bd.notSynchronized (by decide) (by decide) (Q := (Q_u_tob_1 Z s' c0 ks h0 n0)) ?_ (fun fs hr => own_retA X5 hx Bd.returns rfl rfl (hb hby d18_33) hr)
  unfold Q_u_tob_1
  exact ⟨b1, k1, rfl, N5, by omega, (((Keep.refl h0 []).trans K1 all0).trans K5 (allS (Or.inr (by first | omega | exact own_ne (by omega) | exact own_le (by omega) | exact own_lt (by omega))) all0)), V5⟩
theorem d7_0 : decode jdk_52_method_16_code 0 = .ok (.iload_n 2, 1) := by decide +kernel
theorem d7_1 : decode jdk_52_method_16_code 1 = .ok (.newarray .byte, 2) := by decide +kernel
theorem d7_3 : decode jdk_52_method_16_code 3 = .ok (.astore_n 3, 1) := by decide +kernel
theorem d7_4 : decode jdk_52_method_16_code 4 = .ok (.aload_n 0, 1) := by decide +kernel
theorem d7_5 : decode jdk_52_method_16_code 5 = .ok (.iload_n 1, 1) := by decide +kernel
theorem d7_6 : decode jdk_52_method_16_code 6 = .ok (.aload_n 3, 1) := by decide +kernel
theorem d7_7 : decode jdk_52_method_16_code 7 = .ok (.iconst 0, 1) := by decide +kernel
theorem d7_8 : decode jdk_52_method_16_code 8 = .ok (.iload_n 2, 1) := by decide +kernel
theorem d7_9 : decode jdk_52_method_16_code 9 = .ok (.invokestatic 115, 3) := by decide +kernel
theorem pd___CI_BII_I : parseMethodDescriptor "([CI[BII)I" = some ⟨[(.array .char), .int, (.array .byte), .int, .int], some .int⟩ := by decide +kernel
theorem d7_12 : decode jdk_52_method_16_code 12 = .ok (.istore 4, 2) := by decide +kernel
theorem d7_14 : decode jdk_52_method_16_code 14 = .ok (.iload 4, 2) := by decide +kernel
theorem d7_16 : decode jdk_52_method_16_code 16 = .ok (.iload_n 2, 1) := by decide +kernel
theorem d7_17 : decode jdk_52_method_16_code 17 = .ok (.if_icmp .eq 40, 3) := by decide +kernel
theorem d7_57 : decode jdk_52_method_16_code 57 = .ok (.aload_n 3, 1) := by decide +kernel
theorem d7_58 : decode jdk_52_method_16_code 58 = .ok (.areturn, 1) := by decide +kernel
def Q_u_c3_1 (Z : State) (s' : Addr) (c0 : Int32) (ks : ClassId) (h0 : Heap) (n0 : Nat) (v : Option Value) (h : Heap) (L : List Loc) : Prop := ∃ (t : Addr) (k : ClassId), v = some (.ref t) ∧ Fr n0 L ∧ h0.size ≤ t ∧ Keep h0 h [] ∧ ((¬ (255 : Int32) < c0 ∧ Arv Z h t k .byte 1 [(.int (own_b8 c0))] (.int 0)) ∨ Arv Z h t k .byte 2 [(.int (own_b0 c0)), (.int (own_b1 c0))] (.int 0))
theorem d7_20 : decode jdk_52_method_16_code 20 = .ok (.aload_n 0, 1) := by decide +kernel
theorem d7_21 : decode jdk_52_method_16_code 21 = .ok (.iload_n 1, 1) := by decide +kernel
theorem d7_22 : decode jdk_52_method_16_code 22 = .ok (.iload_n 2, 1) := by decide +kernel
theorem d7_23 : decode jdk_52_method_16_code 23 = .ok (.invokestatic 119, 3) := by decide +kernel
theorem pd___CII__B : parseMethodDescriptor "([CII)[B" = some ⟨[(.array .char), .int, .int], some (.array .byte)⟩ := by decide +kernel
theorem d7_26 : decode jdk_52_method_16_code 26 = .ok (.astore 5, 2) := by decide +kernel
theorem d7_28 : decode jdk_52_method_16_code 28 = .ok (.aload 5, 2) := by decide +kernel
theorem d7_30 : decode jdk_52_method_16_code 30 = .ok (.iload 4, 2) := by decide +kernel
theorem d7_32 : decode jdk_52_method_16_code 32 = .ok (.invokestatic 71, 3) := by decide +kernel
theorem d7_35 : decode jdk_52_method_16_code 35 = .ok (.sipush 255, 3) := by decide +kernel
theorem d7_38 : decode jdk_52_method_16_code 38 = .ok (.if_icmp .gt 16, 3) := by decide +kernel
theorem d7_54 : decode jdk_52_method_16_code 54 = .ok (.aload 5, 2) := by decide +kernel
theorem d7_56 : decode jdk_52_method_16_code 56 = .ok (.areturn, 1) := by decide +kernel
theorem ef_u_c3_1 (m : MethodId) (s' : Addr)  : entryFrame m #[(.ref s'), (.int (0 : Int32)), (.int (1 : Int32))] 6 = mkF m 0 #[.val (.ref s'), .val (.int (0 : Int32)), .val (.int (1 : Int32)), .unset, .unset, .unset] [] := by first | (simp [entryFrame, mkF, argsToLocals, Value.category]; done) | rfl
theorem u_c3_1 (l : Launch) (Z : State) (a0 : Array Value) (hw : TW a0 Z) (ws : List Jvm.Cond) (s' : Addr) (c0 : Int32) (ks : ClassId) (h0 : Heap) (n0 : Nat) (Z0 : n0 ≤ h0.size) (O : Old Z n0 h0) (SU : US Z) (Vs : Arv Z h0 s' ks .char 1 [(.int c0)] (.int 0)) (hc0 : ¬ c0 < 0 ∧ ¬ (65535 : Int32) < c0) :
    own_MF l Z MN12 jdk_52_method_16_code 6 (some (.array .byte)) ws (own_R 3 2 3 40) #[(.ref s'), (.int (0 : Int32)), (.int (1 : Int32))] h0 (Q_u_c3_1 Z s' c0 ks h0 n0) := by
  have wd := @own_wd _ _ hw
  refine MetFree.of_bodySF (plainFor_of_name pn_java_lang_StringUTF16) hisR ?_
  intro p e s m args below meth c s₁ Bd hml0 hP hK
  obtain ⟨rfl, hZ, hh⟩ := hP
  have hx := Bd.exec
  have hby := Bd.bytes
  have hml : c.maxLocals = 6 := hml0
  have hown : s.vm.findClass "java/lang/StringUTF16" = some m.cls := findClass_of_methodNamed Bd.named
  have hnm := (name_of_methodNamed Bd.named Bd.method).1
  have X0 : Stand p l e (own_R 3 2 3 40) s m #[(.ref s'), (.int (0 : Int32)), (.int (1 : Int32))] below meth c s₁ [] 0 0 := Stand.of_body Bd
  have e0 : s₁.heap = h0 := by rw [← hh, Bd.state]; rfl
  have N0 := Fr.nil n0
  have lts := own_nlt (Vs.lt)
  refine go_of (A := s₁.setTop (entryFrame m #[(.ref s'), (.int (0 : Int32)), (.int (1 : Int32))] 6)) (B := s₁.setTop (mkF m 0 #[.val (.ref s'), .val (.int (0 : Int32)), .val (.int (1 : Int32)), .unset, .unset, .unset] [])) (fun _ kk' => castTop (ef_u_c3_1 m s') kk') ?_
  refine go_of (B := (s₁.setTop (mkF m 1 #[.val (.ref s'), .val (.int (0 : Int32)), .val (.int (1 : Int32)), .unset, .unset, .unset] [(.int (1 : Int32))]))) (fun _ kk => XS.iloadN X0.here hx rfl (hb hby d7_0) rfl kk) ?_
  obtain ⟨T1, h1, k1, X1, e1, E1, A1, st1⟩ := newP X0 hx hZ (wd 20 rfl) e0 (g := (mkF m 1 #[.val (.ref s'), .val (.int (0 : Int32)), .val (.int (1 : Int32)), .unset, .unset, .unset] [(.int (1 : Int32))])) rfl (hb hby d7_1) rfl (by decide) (cap := 1) (by decide) (by decide) (by decide) (by decide)
  obtain ⟨b1, g1⟩ : ∃ z, z = h0.size := ⟨_, rfl⟩
  rw [← g1] at A1 st1
  have hi1 := own_nlt A1.lt
  have sz1 := E1.1
  have V1 : Arv Z h1 b1 k1 .byte (1 : Int32) [(.int (0 : Int32))] (.int (0 : Int32)) := (Arv.new A1 (by decide)).pad (pad_rep [] (.int (0 : Int32)) 1)
  refine go_of (B := (T1.setTop (mkF m 3 #[.val (.ref s'), .val (.int (0 : Int32)), .val (.int (1 : Int32)), .unset, .unset, .unset] [(.ref b1)]))) (st1) ?_
  refine go_of (B := (T1.setTop (mkF m 9 #[.val (.ref s'), .val (.int (0 : Int32)), .val (.int (1 : Int32)), .val (.ref b1), .unset, .unset] [(.int (1 : Int32)), (.int (0 : Int32)), (.ref b1), (.int (0 : Int32)), (.ref s')]))) (fun _ kk => XS.astoreN X1.here hx rfl (hb hby d7_3) rfl rfl rfl (XS.aloadN X1.here hx rfl (hb hby d7_4) rfl rfl (XS.iloadN X1.here hx rfl (hb hby d7_5) rfl (XS.aloadN X1.here hx rfl (hb hby d7_6) rfl rfl (XS.iconst X1.here hx rfl (hb hby d7_7) (XS.iloadN X1.here hx rfl (hb hby d7_8) rfl kk)))))) ?_
  have cf_2 := (Vs.ext E1)
  obtain ⟨_, _, ⟨T3, L3, k3, n3⟩, -, X3, ⟨Lc3, hQ3, l3, y3, z3⟩, st3⟩ := Jvm.LawKit.callS X1 hx (y := MN13) hown (mvT hZ (wd 41 rfl)) (mvT hZ (wd 42 rfl)) (mvT hZ (wd 39 rfl)) (mvT hZ (wd 43 rfl)) (by decide) (backOf (W := 0) (u_c5_1 l Z a0 hw [] s' b1 c0 ks k1 h1 n0 (by first | omega | exact own_ne (by omega) | exact own_le (by omega) | exact own_lt (by omega)) cf_2 V1 (by first | omega | exact own_ne (by omega) | exact own_le (by omega) | exact own_lt (by omega)) (by first | omega | exact own_ne (by omega) | exact own_le (by omega) | exact own_lt (by omega))) hZ (wd 43 rfl) (wd 39 rfl) (by decide) (by decide)) (g := (mkF m 9 #[.val (.ref s'), .val (.int (0 : Int32)), .val (.int (1 : Int32)), .val (.ref b1), .unset, .unset] [(.int (1 : Int32)), (.int (0 : Int32)), (.ref b1), (.int (0 : Int32)), (.ref s')])) rfl (by rw [hml]; rfl) (argsL := [(.ref s'), (.int (0 : Int32)), (.ref b1), (.int (0 : Int32)), (.int (1 : Int32))]) (rest := []) (lenOf pd___CI_BII_I rfl) rfl (by show 2 * 0 + _ ≤ _; exact Nat.le_of_eq rfl) (hb hby d7_9) (fun _ _ => ⟨rfl, e1, (by decide : 1 + 0 ≤ _), (by decide : 1 + 0 ≤ _)⟩)
  dsimp only [Pt.U, Pt.locs, Pt.cells, Pt.slots] at X3 l3 y3 z3 st3 hQ3
  subst l3 y3 z3
  obtain ⟨r3, rfl, N3q, K3, H3⟩ := hQ3
  have N3 := Fr.app N0 N3q
  have sz3 := K3.1
  refine go_of (B := (T3.setTop (mkF m 12 #[.val (.ref s'), .val (.int (0 : Int32)), .val (.int (1 : Int32)), .val (.ref b1), .unset, .unset] [(.int r3)]))) (st3) ?_
  rcases H3 with ⟨rfl, hl0, V3⟩ | ⟨rfl, hg⟩
  · refine go_of (B := (T3.setTop (mkF m 58 #[.val (.ref s'), .val (.int (0 : Int32)), .val (.int (1 : Int32)), .val (.ref b1), .val (.int (1 : Int32)), .unset] [(.ref b1)]))) (fun _ kk => XS.istore X3.here hx rfl (hb hby d7_12) rfl rfl (XS.iload X3.here hx rfl (hb hby d7_14) rfl (XS.iloadN X3.here hx rfl (hb hby d7_16) rfl (XS.icmpYes X3.here hx rfl (pc0 := 17) (pc' := 57) rfl (hb hby d7_17) rfl (teq (by decide : (1 : Int32) = (1 : Int32))).1 (by decide) (by decide) (XS.aloadN X3.here hx rfl (hb hby d7_57) rfl rfl kk))))) ?_
    refine go_end X3 (v := some (.ref b1)) (fun h => by rw [Bd.returns] at h; cases h) Bd.notSynchronized (by decide) (by decide) (Q := (Q_u_c3_1 Z s' c0 ks h0 n0)) ?_ (fun fs hr => own_retA X3 hx Bd.returns rfl rfl (hb hby d7_58) hr)
    unfold Q_u_c3_1
    exact ⟨b1, k1, rfl, N3, by omega, (((Keep.refl h0 []).ext E1).trans K3 (allS (Or.inr (by first | omega | exact own_ne (by omega) | exact own_le (by omega) | exact own_lt (by omega))) all0)), Or.inl ⟨hl0, V3⟩⟩
  · refine go_of (B := (T3.setTop (mkF m 22 #[.val (.ref s'), .val (.int (0 : Int32)), .val (.int (1 : Int32)), .val (.ref b1), .val (.int (0 : Int32)), .unset] [(.int (0 : Int32)), (.ref s')]))) (fun _ kk => XS.istore X3.here hx rfl (hb hby d7_12) rfl rfl (XS.iload X3.here hx rfl (hb hby d7_14) rfl (XS.iloadN X3.here hx rfl (hb hby d7_16) rfl (XS.icmpNo X3.here hx rfl (hb hby d7_17) rfl (feq (by decide : ¬ ((0 : Int32) = (1 : Int32)))).1 (XS.aloadN X3.here hx rfl (hb hby d7_20) rfl rfl (XS.iloadN X3.here hx rfl (hb hby d7_21) rfl kk)))))) ?_
    refine go_of (B := (T3.setTop (mkF m 23 #[.val (.ref s'), .val (.int (0 : Int32)), .val (.int (1 : Int32)), .val (.ref b1), .val (.int (0 : Int32)), .unset] [(.int (1 : Int32)), (.int (0 : Int32)), (.ref s')]))) (fun _ kk => XS.iloadN X3.here hx rfl (hb hby d7_22) rfl kk) ?_
    have cf_4 := ((O.ext E1).keep K3 (allS (by first | omega | exact own_ne (by omega) | exact own_le (by omega) | exact own_lt (by omega)) all0))
    have cf_5 := (cf_2.keep K3 (ninS (by first | omega | exact own_ne (by omega) | exact own_le (by omega) | exact own_lt (by omega)) nin0))
    obtain ⟨_, _, ⟨T6, L6, k6, n6⟩, -, X6, ⟨Lc6, hQ6, l6, y6, z6⟩, st6⟩ := Jvm.LawKit.callS X3 hx (y := MN18) hown (mvT hZ (wd 82 rfl)) (mvT hZ (wd 83 rfl)) (mvT hZ (wd 39 rfl)) (mvT hZ (wd 84 rfl)) (by decide) (backOf (W := 0) (u_tob_1 l Z a0 hw [] s' c0 ks T3.heap n0 (by first | omega | exact own_ne (by omega) | exact own_le (by omega) | exact own_lt (by omega)) cf_4 SU cf_5) hZ (wd 84 rfl) (wd 39 rfl) (by decide) (by decide)) (g := (mkF m 23 #[.val (.ref s'), .val (.int (0 : Int32)), .val (.int (1 : Int32)), .val (.ref b1), .val (.int (0 : Int32)), .unset] [(.int (1 : Int32)), (.int (0 : Int32)), (.ref s')])) rfl (by rw [hml]; rfl) (argsL := [(.ref s'), (.int (0 : Int32)), (.int (1 : Int32))]) (rest := []) (lenOf pd___CII__B rfl) rfl (by show 2 * 0 + _ ≤ _; exact Nat.le_of_eq rfl) (hb hby d7_23) (fun _ _ => ⟨rfl, rfl, (by decide : 1 + 1 ≤ _), (by decide : 1 + 2 ≤ _)⟩)
    dsimp only [Pt.U, Pt.locs, Pt.cells, Pt.slots] at X6 l6 y6 z6 st6 hQ6
    subst l6 y6 z6
    obtain ⟨b6, k6, rfl, N6q, lo6, K6, V6⟩ := hQ6
    have lo6 := own_nle lo6
    have N6 := Fr.app N3 N6q
    have hi6 := own_nlt (V6.lt)
    have sz6 := K6.1
    refine go_of (B := (T6.setTop (mkF m 26 #[.val (.ref s'), .val (.int (0 : Int32)), .val (.int (1 : Int32)), .val (.ref b1), .val (.int (0 : Int32)), .unset] [(.ref b6)]))) (st6) ?_
    refine go_of (B := (T6.setTop (mkF m 32 #[.val (.ref s'), .val (.int (0 : Int32)), .val (.int (1 : Int32)), .val (.ref b1), .val (.int (0 : Int32)), .val (.ref b6)] [(.int (0 : Int32)), (.ref b6)]))) (fun _ kk => XS.astore X6.here hx rfl (hb hby d7_26) rfl rfl rfl (XS.aload X6.here hx rfl (hb hby d7_28) rfl rfl (XS.iload X6.here hx rfl (hb hby d7_30) rfl kk))) ?_
    have cf_7 := (cf_4.keep K6 all0)
    obtain ⟨_, _, ⟨T8, L8, k8, n8⟩, -, X8, ⟨Lc8, hQ8, l8, y8, z8⟩, st8⟩ := Jvm.LawKit.callS X6 hx (y := MN14) hown (mvT hZ (wd 98 rfl)) (mvT hZ (wd 99 rfl)) (mvT hZ (wd 39 rfl)) (mvT hZ (wd 100 rfl)) (by decide) (backOf (W := 0) (u_get l Z a0 hw [] b6 (0 : Int32) (2 : Int32) _ c0 k6 T6.heap n0 (by first | omega | exact own_ne (by omega) | exact own_le (by omega) | exact own_lt (by omega)) cf_7 SU V6 (by decide) (by decide) rfl rfl hc0) hZ (wd 100 rfl) (wd 39 rfl) (by decide) (by decide)) (g := (mkF m 32 #[.val (.ref s'), .val (.int (0 : Int32)), .val (.int (1 : Int32)), .val (.ref b1), .val (.int (0 : Int32)), .val (.ref b6)] [(.int (0 : Int32)), (.ref b6)])) rfl (by rw [hml]; rfl) (argsL := [(.ref b6), (.int (0 : Int32))]) (rest := []) (lenOf pd___BI_C rfl) rfl (by show 2 * 0 + _ ≤ _; exact Nat.le_of_eq rfl) (hb hby d7_32) (fun _ _ => ⟨rfl, rfl, (by decide : 2 + 0 ≤ _), (by decide : 3 + 0 ≤ _)⟩)
    dsimp only [Pt.U, Pt.locs, Pt.cells, Pt.slots] at X8 l8 y8 z8 st8 hQ8
    subst l8 y8 z8
    obtain ⟨rfl, N8q, e8⟩ := hQ8
    have N8 := Fr.app N6 N8q
    refine go_of (B := (T8.setTop (mkF m 35 #[.val (.ref s'), .val (.int (0 : Int32)), .val (.int (1 : Int32)), .val (.ref b1), .val (.int (0 : Int32)), .val (.ref b6)] [(.int c0)]))) (st8) ?_
    refine go_of (B := (T8.setTop (mkF m 56 #[.val (.ref s'), .val (.int (0 : Int32)), .val (.int (1 : Int32)), .val (.ref b1), .val (.int (0 : Int32)), .val (.ref b6)] [(.ref b6)]))) (fun _ kk => XS.sipush X8.here hx rfl (hb hby d7_35) (XS.icmpYes X8.here hx rfl (pc0 := 38) (pc' := 54) rfl (hb hby d7_38) rfl (tlt hg).2.2.1 (by decide) (by decide) (XS.aload X8.here hx rfl (hb hby d7_54) rfl rfl kk))) ?_
    refine go_end X8 (v := some (.ref b6)) (fun h => by rw [Bd.returns] at h; cases h) Bd.notSynchronized (by decide) (by decide) (Q := (Q_u_c3_1 Z s' c0 ks h0 n0)) ?_ (fun fs hr => own_retA X8 hx Bd.returns rfl rfl (hb hby d7_56) hr)
    unfold Q_u_c3_1
    try rw [e8]
    exact ⟨b6, k6, rfl, N8, by omega, ((((Keep.refl h0 []).ext E1).trans K3 (allS (Or.inr (by first | omega | exact own_ne (by omega) | exact own_le (by omega) | exact own_lt (by omega))) all0)).trans K6 all0), Or.inr V6⟩
theorem d9_0 : decode jdk_52_method_15_code 0 = .ok (.iload_n 1, 1) := by decide +kernel
theorem d9_1 : decode jdk_52_method_15_code 1 = .ok (.aload_n 0, 1) := by decide +kernel
theorem d9_2 : decode jdk_52_method_15_code 2 = .ok (.arraylength, 1) := by decide +kernel
theorem d9_3 : decode jdk_52_method_15_code 3 = .ok (.isub, 1) := by decide +kernel
theorem d9_4 : decode jdk_52_method_15_code 4 = .ok (.bipush 31, 2) := by decide +kernel
theorem d9_6 : decode jdk_52_method_15_code 6 = .ok (.iushr, 1) := by decide +kernel
theorem d9_7 : decode jdk_52_method_15_code 7 = .ok (.i2b, 1) := by decide +kernel
theorem d9_8 : decode jdk_52_method_15_code 8 = .ok (.ireturn, 1) := by decide +kernel
def Q_str_cf_1 (Z : State) (t : Addr) (k : ClassId) (vs : List Value) (h0 : Heap) (n0 : Nat) (v : Option Value) (h : Heap) (L : List Loc) : Prop := v = some (.int 0) ∧ Fr n0 L ∧ h = h0
theorem ef_str_cf_1 (m : MethodId) (t : Addr)  : entryFrame m #[(.ref t), (.int (1 : Int32))] 2 = mkF m 0 #[.val (.ref t), .val (.int (1 : Int32))] [] := by first | (simp [entryFrame, mkF, argsToLocals, Value.category]; done) | rfl
theorem str_cf_1 (l : Launch) (Z : State) (a0 : Array Value) (hw : TW a0 Z) (ws : List Jvm.Cond) (t : Addr) (k : ClassId) (vs : List Value) (h0 : Heap) (n0 : Nat) (Z0 : n0 ≤ h0.size) (V : Arv Z h0 t k .byte 1 vs (.int 0)) :
    own_MF l Z MN11 jdk_52_method_15_code 2 (some .byte) ws (own_R 0 0 0 0) #[(.ref t), (.int (1 : Int32))] h0 (Q_str_cf_1 Z t k vs h0 n0) := by
  have wd := @own_wd _ _ hw
  refine MetFree.of_bodySF (plainFor_of_name pn_java_lang_StringUTF16) hisR ?_
  intro p e s m args below meth c s₁ Bd hml0 hP hK
  obtain ⟨rfl, hZ, hh⟩ := hP
  have hx := Bd.exec
  have hby := Bd.bytes
  have hml : c.maxLocals = 2 := hml0
  have hown : s.vm.findClass "java/lang/StringUTF16" = some m.cls := findClass_of_methodNamed Bd.named
  have hnm := (name_of_methodNamed Bd.named Bd.method).1
  have X0 : Stand p l e (own_R 0 0 0 0) s m #[(.ref t), (.int (1 : Int32))] below meth c s₁ [] 0 0 := Stand.of_body Bd
  have e0 : s₁.heap = h0 := by rw [← hh, Bd.state]; rfl
  have N0 := Fr.nil n0
  refine go_of (A := s₁.setTop (entryFrame m #[(.ref t), (.int (1 : Int32))] 2)) (B := s₁.setTop (mkF m 0 #[.val (.ref t), .val (.int (1 : Int32))] [])) (fun _ kk' => castTop (ef_str_cf_1 m t) kk') ?_
  refine go_of (B := (s₁.setTop (mkF m 2 #[.val (.ref t), .val (.int (1 : Int32))] [(.ref t), (.int (1 : Int32))]))) (fun _ kk => XS.iloadN X0.here hx rfl (hb hby d9_0) rfl (XS.aloadN X0.here hx rfl (hb hby d9_1) rfl rfl kk)) ?_
  obtain ⟨cl1, Ar1, q1, Sz1, Nn1, Hh1, G1⟩ := id (V)
  have ln1 := len_of Sz1 Nn1
  refine go_of (B := (s₁.setTop (mkF m 3 #[.val (.ref t), .val (.int (1 : Int32))] [(.int (1 : Int32)), (.int (1 : Int32))]))) (fun _ kk => X0.arraylength hx (by rw [e0]; exact Ar1.1) (State.isArrayOf_alike hZ.alike Ar1.2.1) (g := (mkF m 2 #[.val (.ref t), .val (.int (1 : Int32))] [(.ref t), (.int (1 : Int32))])) rfl rfl (hb hby d9_2) _ (by rw [ln1]; exact kk)) ?_
  refine go_of (B := (s₁.setTop (mkF m 8 #[.val (.ref t), .val (.int (1 : Int32))] [(.int (0 : Int32))]))) (fun _ kk => XS.isub X0.here hx rfl (hb hby d9_3) rfl (XS.bipush X0.here hx rfl (hb hby d9_4) (XS.iushr X0.here hx rfl (hb hby d9_6) rfl (XS.i2b X0.here hx rfl (hb hby d9_7) rfl kk)))) ?_
  refine go_end X0 (v := some (.int (nar .byte (0 : Int32)))) (fun h => by rw [Bd.returns] at h; cases h) Bd.notSynchronized (by decide) (by decide) (Q := (Q_str_cf_1 Z t k vs h0 n0)) ?_ (fun fs hr => retN X0 hx (t := .byte) Bd.returns (by simp) (hb hby d9_8) hr)
  unfold Q_str_cf_1
  try rw [e0]
  exact ⟨rfl, N0, rfl⟩
def Q_u_cf_1 (Z : State) (t : Addr) (k : ClassId) (vs : List Value) (h0 : Heap) (n0 : Nat) (v : Option Value) (h : Heap) (L : List Loc) : Prop := v = some (.int 1) ∧ Fr n0 L ∧ h = h0
theorem ef_u_cf_1 (m : MethodId) (t : Addr)  : entryFrame m #[(.ref t), (.int (1 : Int32))] 2 = mkF m 0 #[.val (.ref t), .val (.int (1 : Int32))] [] := by first | (simp [entryFrame, mkF, argsToLocals, Value.category]; done) | rfl
theorem u_cf_1 (l : Launch) (Z : State) (a0 : Array Value) (hw : TW a0 Z) (ws : List Jvm.Cond) (t : Addr) (k : ClassId) (vs : List Value) (h0 : Heap) (n0 : Nat) (Z0 : n0 ≤ h0.size) (V : Arv Z h0 t k .byte 2 vs (.int 0)) :
    own_MF l Z MN11 jdk_52_method_15_code 2 (some .byte) ws (own_R 0 0 0 0) #[(.ref t), (.int (1 : Int32))] h0 (Q_u_cf_1 Z t k vs h0 n0) := by
  have wd := @own_wd _ _ hw
  refine MetFree.of_bodySF (plainFor_of_name pn_java_lang_StringUTF16) hisR ?_
  intro p e s m args below meth c s₁ Bd hml0 hP hK
  obtain ⟨rfl, hZ, hh⟩ := hP
  have hx := Bd.exec
  have hby := Bd.bytes
  have hml : c.maxLocals = 2 := hml0
  have hown : s.vm.findClass "java/lang/StringUTF16" = some m.cls := findClass_of_methodNamed Bd.named
  have hnm := (name_of_methodNamed Bd.named Bd.method).1
  have X0 : Stand p l e (own_R 0 0 0 0) s m #[(.ref t), (.int (1 : Int32))] below meth c s₁ [] 0 0 := Stand.of_body Bd
  have e0 : s₁.heap = h0 := by rw [← hh, Bd.state]; rfl
  have N0 := Fr.nil n0
  refine go_of (A := s₁.setTop (entryFrame m #[(.ref t), (.int (1 : Int32))] 2)) (B := s₁.setTop (mkF m 0 #[.val (.ref t), .val (.int (1 : Int32))] [])) (fun _ kk' => castTop (ef_u_cf_1 m t) kk') ?_
  refine go_of (B := (s₁.setTop (mkF m 2 #[.val (.ref t), .val (.int (1 : Int32))] [(.ref t), (.int (1 : Int32))]))) (fun _ kk => XS.iloadN X0.here hx rfl (hb hby d9_0) rfl (XS.aloadN X0.here hx rfl (hb hby d9_1) rfl rfl kk)) ?_
  obtain ⟨cl1, Ar1, q1, Sz1, Nn1, Hh1, G1⟩ := id (V)
  have ln1 := len_of Sz1 Nn1
  refine go_of (B := (s₁.setTop (mkF m 3 #[.val (.ref t), .val (.int (1 : Int32))] [(.int (2 : Int32)), (.int (1 : Int32))]))) (fun _ kk => X0.arraylength hx (by rw [e0]; exact Ar1.1) (State.isArrayOf_alike hZ.alike Ar1.2.1) (g := (mkF m 2 #[.val (.ref t), .val (.int (1 : Int32))] [(.ref t), (.int (1 : Int32))])) rfl rfl (hb hby d9_2) _ (by rw [ln1]; exact kk)) ?_
  refine go_of (B := (s₁.setTop (mkF m 8 #[.val (.ref t), .val (.int (1 : Int32))] [(.int (1 : Int32))]))) (fun _ kk => XS.isub X0.here hx rfl (hb hby d9_3) rfl (XS.bipush X0.here hx rfl (hb hby d9_4) (XS.iushr X0.here hx rfl (hb hby d9_6) rfl (XS.i2b X0.here hx rfl (hb hby d9_7) rfl kk)))) ?_
  refine go_end X0 (v := some (.int (nar .byte (1 : Int32)))) (fun h => by rw [Bd.returns] at h; cases h) Bd.notSynchronized (by decide) (by decide) (Q := (Q_u_cf_1 Z t k vs h0 n0)) ?_ (fun fs hr => retN X0 hx (t := .byte) Bd.returns (by simp) (hb hby d9_8) hr)
  unfold Q_u_cf_1
  try rw [e0]
  exact ⟨rfl, N0, rfl⟩
theorem d3_27 : decode jdk_42_method_149_code 27 = .ok (.getstatic 38, 3) := by decide +kernel
theorem d3_30 : decode jdk_42_method_149_code 30 = .ok (.ifCond .eq 28, 3) := by decide +kernel
theorem d3_33 : decode jdk_42_method_149_code 33 = .ok (.aload_n 1, 1) := by decide +kernel
theorem d3_34 : decode jdk_42_method_149_code 34 = .ok (.iload_n 2, 1) := by decide +kernel
theorem d3_35 : decode jdk_42_method_149_code 35 = .ok (.iload_n 3, 1) := by decide +kernel
theorem d3_36 : decode jdk_42_method_149_code 36 = .ok (.invokestatic 177, 3) := by decide +kernel
theorem d3_39 : decode jdk_42_method_149_code 39 = .ok (.astore 5, 2) := by decide +kernel
theorem d3_41 : decode jdk_42_method_149_code 41 = .ok (.aload_n 0, 1) := by decide +kernel
theorem d3_42 : decode jdk_42_method_149_code 42 = .ok (.aload 5, 2) := by decide +kernel
theorem d3_44 : decode jdk_42_method_149_code 44 = .ok (.iload_n 3, 1) := by decide +kernel
theorem d3_45 : decode jdk_42_method_149_code 45 = .ok (.invokestatic 47, 3) := by decide +kernel
theorem pd___BI_B : parseMethodDescriptor "([BI)B" = some ⟨[(.array .byte), .int], some .byte⟩ := by decide +kernel
theorem d3_48 : decode jdk_42_method_149_code 48 = .ok (.putfield 15, 3) := by decide +kernel
theorem d3_51 : decode jdk_42_method_149_code 51 = .ok (.aload_n 0, 1) := by decide +kernel
theorem d3_52 : decode jdk_42_method_149_code 52 = .ok (.aload 5, 2) := by decide +kernel
theorem d3_54 : decode jdk_42_method_149_code 54 = .ok (.putfield 9, 3) := by decide +kernel
theorem d3_57 : decode jdk_42_method_149_code 57 = .ok (.return_, 1) := by decide +kernel
def Q_u_i4_1 (Z : State) (a : Addr) (s' : Addr) (c0 : Int32) (ks : ClassId) (gC : Int32) (u : Value) (u2 : Value) (h0 : Heap) (n0 : Nat) (v : Option Value) (h : Heap) (L : List Loc) : Prop := v = none ∧ Fr n0 L ∧ Keep h0 h [a] ∧ StrU Z h a 1 2 [c0]
theorem ef_u_i4_1 (m : MethodId) (a : Addr) (s' : Addr)  : entryFrame m #[(.ref a), (.ref s'), (.int (0 : Int32)), (.int (1 : Int32)), .null] 6 = mkF m 0 #[.val (.ref a), .val (.ref s'), .val (.int (0 : Int32)), .val (.int (1 : Int32)), .val .null, .unset] [] := by first | (simp [entryFrame, mkF, argsToLocals, Value.category]; done) | rfl
theorem u_i4_1 (l : Launch) (Z : State) (a0 : Array Value) (hw : TW a0 Z) (ws : List Jvm.Cond) (a : Addr) (s' : Addr) (c0 : Int32) (ks : ClassId) (gC : Int32) (u : Value) (u2 : Value) (h0 : Heap) (n0 : Nat) (Z0 : n0 ≤ h0.size) (O : Old Z n0 h0) (SC : Sta Z Z.heap "java/lang/String" "COMPACT_STRINGS" "Z" (.int gC)) (hgC : ¬ gC = (0 : Int32)) (SU : US Z) (E : Exa Z h0 a "java/lang/String") (F : Fld Z h0 a "java/lang/String" "value" "[B" u) (F2 : Fld Z h0 a "java/lang/String" "coder" "B" u2) (g : n0 ≤ a) (Vs : Arv Z h0 s' ks .char 1 [(.int c0)] (.int 0)) (hc0 : ¬ c0 < 0 ∧ ¬ (65535 : Int32) < c0) :
    own_MF l Z MN4 jdk_42_method_149_code 6 none ws (own_R 4 2 3 57) #[(.ref a), (.ref s'), (.int (0 : Int32)), (.int (1 : Int32)), .null] h0 (Q_u_i4_1 Z a s' c0 ks gC u u2 h0 n0) := by
  have wd := @own_wd _ _ hw
  refine MetFree.of_bodySF (plainFor_of_name pn_java_lang_String) hisR ?_
  intro p e s m args below meth c s₁ Bd hml0 hP hK
  obtain ⟨rfl, hZ, hh⟩ := hP
  have hx := Bd.exec
  have hby := Bd.bytes
  have hml : c.maxLocals = 6 := hml0
  have hown : s.vm.findClass "java/lang/String" = some m.cls := findClass_of_methodNamed Bd.named
  have hnm := (name_of_methodNamed Bd.named Bd.method).1
  have X0 : Stand p l e (own_R 4 2 3 57) s m #[(.ref a), (.ref s'), (.int (0 : Int32)), (.int (1 : Int32)), .null] below meth c s₁ [] 0 0 := Stand.of_body Bd
  have e0 : s₁.heap = h0 := by rw [← hh, Bd.state]; rfl
  have N0 := Fr.nil n0
  have lta := own_nlt (E.lt)
  have lts := own_nlt (Vs.lt)
  refine go_of (A := s₁.setTop (entryFrame m #[(.ref a), (.ref s'), (.int (0 : Int32)), (.int (1 : Int32)), .null] 6)) (B := s₁.setTop (mkF m 0 #[.val (.ref a), .val (.ref s'), .val (.int (0 : Int32)), .val (.int (1 : Int32)), .val .null, .unset] [])) (fun _ kk' => castTop (ef_u_i4_1 m a s') kk') ?_
  refine go_of (B := (s₁.setTop (mkF m 1 #[.val (.ref a), .val (.ref s'), .val (.int (0 : Int32)), .val (.int (1 : Int32)), .val .null, .unset] [(.ref a)]))) (fun _ kk => XS.aloadN X0.here hx rfl (hb hby d3_0) rfl rfl kk) ?_
  obtain ⟨T1, X1, e1, st1⟩ := initO X0 hx hZ hown (wd 16 rfl) (wd 17 rfl) (wd 18 rfl) e0 (g := (mkF m 1 #[.val (.ref a), .val (.ref s'), .val (.int (0 : Int32)), .val (.int (1 : Int32)), .val .null, .unset] [(.ref a)])) rfl (by rw [hml]; rfl) rfl (hb hby d3_1) (by decide) (W := 0) (by show 2 * 0 + _ ≤ _; exact Nat.le_of_eq rfl) (by decide)
  refine go_of (B := (T1.setTop (mkF m 4 #[.val (.ref a), .val (.ref s'), .val (.int (0 : Int32)), .val (.int (1 : Int32)), .val .null, .unset] []))) (st1) ?_
  refine go_of (B := (T1.setTop (mkF m 27 #[.val (.ref a), .val (.ref s'), .val (.int (0 : Int32)), .val (.int (1 : Int32)), .val .null, .unset] []))) (fun _ kk => XS.iloadN X1.here hx rfl (hb hby d3_4) rfl (XS.ifYes X1.here hx rfl (pc0 := 5) (pc' := 27) rfl (hb hby d3_5) rfl ((if0 _ _).trans (feq (by decide : ¬ ((1 : Int32) = (0 : Int32)))).2) (by decide) (by decide) kk)) ?_
  obtain ⟨T2, X2, e2, st2⟩ := getS2 X1 hx hZ hown (host := "") (Or.inl (wd 36 rfl)) Via.refl e1 (SC.ext O.2) (g := (mkF m 27 #[.val (.ref a), .val (.ref s'), .val (.int (0 : Int32)), .val (.int (1 : Int32)), .val .null, .unset] [])) rfl (hb hby d3_27)
  refine go_of (B := (T2.setTop (mkF m 30 #[.val (.ref a), .val (.ref s'), .val (.int (0 : Int32)), .val (.int (1 : Int32)), .val .null, .unset] [(.int gC)]))) (st2) ?_
  refine go_of (B := (T2.setTop (mkF m 36 #[.val (.ref a), .val (.ref s'), .val (.int (0 : Int32)), .val (.int (1 : Int32)), .val .null, .unset] [(.int (1 : Int32)), (.int (0 : Int32)), (.ref s')]))) (fun _ kk => XS.ifNo X2.here hx rfl (hb hby d3_30) rfl ((if0 _ _).trans (feq hgC).1) (XS.aloadN X2.here hx rfl (hb hby d3_33) rfl rfl (XS.iloadN X2.here hx rfl (hb hby d3_34) rfl (XS.iloadN X2.here hx rfl (hb hby d3_35) rfl kk)))) ?_
  obtain ⟨_, _, ⟨T3, L3, k3, n3⟩, -, X3, ⟨Lc3, hQ3, l3, y3, z3⟩, st3⟩ := Jvm.LawKit.callS X2 hx (y := MN12) hown (mvT hZ (wd 37 rfl)) (mvT hZ (wd 38 rfl)) (mvT hZ (wd 39 rfl)) (mvT hZ (wd 40 rfl)) (by decide) (backOf (W := 0) (u_c3_1 l Z a0 hw [] s' c0 ks h0 n0 (by first | omega | exact own_ne (by omega) | exact own_le (by omega) | exact own_lt (by omega)) O SU Vs hc0) hZ (wd 40 rfl) (wd 39 rfl) (by decide) (by decide)) (g := (mkF m 36 #[.val (.ref a), .val (.ref s'), .val (.int (0 : Int32)), .val (.int (1 : Int32)), .val .null, .unset] [(.int (1 : Int32)), (.int (0 : Int32)), (.ref s')])) rfl (by rw [hml]; rfl) (argsL := [(.ref s'), (.int (0 : Int32)), (.int (1 : Int32))]) (rest := []) (lenOf pd___CII__B rfl) rfl (by show 2 * 0 + _ ≤ _; exact Nat.le_of_eq rfl) (hb hby d3_36) (fun _ _ => ⟨rfl, e2, (by decide : 0 + 2 ≤ _), (by decide : 0 + 3 ≤ _)⟩)
  dsimp only [Pt.U, Pt.locs, Pt.cells, Pt.slots] at X3 l3 y3 z3 st3 hQ3
  subst l3 y3 z3
  obtain ⟨b3, k3, rfl, N3q, lo3, K3, H3⟩ := hQ3
  have lo3 := own_nle lo3
  have N3 := Fr.app N0 N3q
  have sz3 := K3.1
  refine go_of (B := (T3.setTop (mkF m 39 #[.val (.ref a), .val (.ref s'), .val (.int (0 : Int32)), .val (.int (1 : Int32)), .val .null, .unset] [(.ref b3)]))) (st3) ?_
  rcases H3 with ⟨hl0, V3⟩ | V3
  · have hi3 := own_nlt (V3.lt)
    refine go_of (B := (T3.setTop (mkF m 45 #[.val (.ref a), .val (.ref s'), .val (.int (0 : Int32)), .val (.int (1 : Int32)), .val .null, .val (.ref b3)] [(.int (1 : Int32)), (.ref b3), (.ref a)]))) (fun _ kk => XS.astore X3.here hx rfl (hb hby d3_39) rfl rfl rfl (XS.aloadN X3.here hx rfl (hb hby d3_41) rfl rfl (XS.aload X3.here hx rfl (hb hby d3_42) rfl rfl (XS.iloadN X3.here hx rfl (hb hby d3_44) rfl kk)))) ?_
    obtain ⟨_, _, ⟨T4, L4, k4, n4⟩, -, X4, ⟨Lc4, hQ4, l4, y4, z4⟩, st4⟩ := Jvm.LawKit.callS X3 hx (y := MN11) hown (mvT hZ (wd 44 rfl)) (mvT hZ (wd 45 rfl)) (mvT hZ (wd 39 rfl)) (mvT hZ (wd 46 rfl)) (by decide) (backOf (W := 1) (str_cf_1 l Z a0 hw [] b3 k3 _ T3.heap n0 (by first | omega | exact own_ne (by omega) | exact own_le (by omega) | exact own_lt (by omega)) V3) hZ (wd 46 rfl) (wd 39 rfl) (by decide) (by decide)) (g := (mkF m 45 #[.val (.ref a), .val (.ref s'), .val (.int (0 : Int32)), .val (.int (1 : Int32)), .val .null, .val (.ref b3)] [(.int (1 : Int32)), (.ref b3), (.ref a)])) rfl (by rw [hml]; rfl) (argsL := [(.ref b3), (.int (1 : Int32))]) (rest := [(.ref a)]) (lenOf pd___BI_B rfl) rfl (by show 2 * 0 + _ ≤ _; exact Nat.le_of_eq rfl) (hb hby d3_45) (fun _ _ => ⟨rfl, rfl, (by decide : 2 + 0 ≤ _), (by decide : 3 + 0 ≤ _)⟩)
    dsimp only [Pt.U, Pt.locs, Pt.cells, Pt.slots] at X4 l4 y4 z4 st4 hQ4
    subst l4 y4 z4
    obtain ⟨rfl, N4q, e4⟩ := hQ4
    have N4 := Fr.app N3 N4q
    refine go_of (B := (T4.setTop (mkF m 48 #[.val (.ref a), .val (.ref s'), .val (.int (0 : Int32)), .val (.int (1 : Int32)), .val .null, .val (.ref b3)] [(.int (0 : Int32)), (.ref a)]))) (st4) ?_
    have cf_5 := (E.keep K3)
    have cf_6 := (F2.keep K3 nin0)
    obtain ⟨T7, h7, X7, e7, W7, st7⟩ := putFN X4 hx hZ hown (wd 26 rfl) Via.refl e4 cf_6 cf_5 (Or.inr ⟨(wd 22 rfl), rfl, hnm⟩) (wd 2 rfl) (ty := .byte) (v' := (.int (nar .byte (0 : Int32)))) (by decide) rfl (fits_nar_byte _) (g := (mkF m 48 #[.val (.ref a), .val (.ref s'), .val (.int (0 : Int32)), .val (.int (1 : Int32)), .val .null, .val (.ref b3)] [(.int (0 : Int32)), (.ref a)])) rfl rfl (hb hby d3_48)
    have sz7 := W7.size
    have Fw7 := cf_6.same W7
    have N7 := Fr.snoc X7 N4 (g : n0 ≤ a)
    refine go_of (B := (T7.setTop (mkF m 51 #[.val (.ref a), .val (.ref s'), .val (.int (0 : Int32)), .val (.int (1 : Int32)), .val .null, .val (.ref b3)] []))) (st7) ?_
    refine go_of (B := (T7.setTop (mkF m 54 #[.val (.ref a), .val (.ref s'), .val (.int (0 : Int32)), .val (.int (1 : Int32)), .val .null, .val (.ref b3)] [(.ref b3), (.ref a)]))) (fun _ kk => XS.aloadN X7.here hx rfl (hb hby d3_51) rfl rfl (XS.aload X7.here hx rfl (hb hby d3_52) rfl rfl kk)) ?_
    have cf_8 := (cf_5.wr W7)
    have cf_9 := ((F.keep K3 nin0).other W7 (Or.inr (slot_ne (Or.inr (wd 21 rfl)) (Or.inr (wd 22 rfl)) (by decide) (t := (.array .byte)) (t' := .byte) (by decide) (by decide))))
    obtain ⟨T10, h10, X10, e10, W10, st10⟩ := putF X7 hx hZ hown (host := "") (Or.inl (wd 25 rfl)) Via.refl e7 cf_9 cf_8 (Or.inr ⟨(wd 21 rfl), rfl, hnm⟩) (wd 2 rfl) (ty := (.array .byte)) (by decide) rfl rfl (g := (mkF m 54 #[.val (.ref a), .val (.ref s'), .val (.int (0 : Int32)), .val (.int (1 : Int32)), .val .null, .val (.ref b3)] [(.ref b3), (.ref a)])) rfl rfl (hb hby d3_54)
    have sz10 := W10.size
    have Fw10 := cf_9.same W10
    have N10 := Fr.snoc X10 N7 (g : n0 ≤ a)
    refine go_of (B := (T10.setTop (mkF m 57 #[.val (.ref a), .val (.ref s'), .val (.int (0 : Int32)), .val (.int (1 : Int32)), .val .null, .val (.ref b3)] []))) (st10) ?_
    have cf_11 := ((V3.other W7 (by first | omega | exact own_ne (by omega) | exact own_le (by omega) | exact own_lt (by omega))).other W10 (by first | omega | exact own_ne (by omega) | exact own_le (by omega) | exact own_lt (by omega)))
    have cf_12 := (Fw7.other W10 (Or.inr (slot_ne (Or.inr (wd 22 rfl)) (Or.inr (wd 21 rfl)) (by decide) (t := .byte) (t' := (.array .byte)) (by decide) (by decide))))
    have cf_13 := (cf_8.wr W10)
    refine go_end X10 (v := none) (fun _ => rfl) Bd.notSynchronized (by decide) (by decide) (Q := (Q_u_i4_1 Z a s' c0 ks gC u u2 h0 n0)) ?_ (fun fs hr => X10.returnOut hx Bd.returns (hb hby d3_57) hr)
    unfold Q_u_i4_1
    try rw [e10]
    exact ⟨rfl, N10, ((((Keep.refl h0 [a]).trans K3 all0).wr W7 (Or.inl (List.mem_of_getElem? (i := 0) rfl))).wr W10 (Or.inl (List.mem_of_getElem? (i := 0) rfl))), Or.inl ⟨b3, k3, cf_13, cf_12, Fw10, cf_11, (own_allc ⟨hc0.1, hl0⟩ (fun _ q => nomatch q))⟩⟩
  · have hi3 := own_nlt (V3.lt)
    refine go_of (B := (T3.setTop (mkF m 45 #[.val (.ref a), .val (.ref s'), .val (.int (0 : Int32)), .val (.int (1 : Int32)), .val .null, .val (.ref b3)] [(.int (1 : Int32)), (.ref b3), (.ref a)]))) (fun _ kk => XS.astore X3.here hx rfl (hb hby d3_39) rfl rfl rfl (XS.aloadN X3.here hx rfl (hb hby d3_41) rfl rfl (XS.aload X3.here hx rfl (hb hby d3_42) rfl rfl (XS.iloadN X3.here hx rfl (hb hby d3_44) rfl kk)))) ?_
    obtain ⟨_, _, ⟨T14, L14, k14, n14⟩, -, X14, ⟨Lc14, hQ14, l14, y14, z14⟩, st14⟩ := Jvm.LawKit.callS X3 hx (y := MN11) hown (mvT hZ (wd 44 rfl)) (mvT hZ (wd 45 rfl)) (mvT hZ (wd 39 rfl)) (mvT hZ (wd 46 rfl)) (by decide) (backOf (W := 1) (u_cf_1 l Z a0 hw [] b3 k3 _ T3.heap n0 (by first | omega | exact own_ne (by omega) | exact own_le (by omega) | exact own_lt (by omega)) V3) hZ (wd 46 rfl) (wd 39 rfl) (by decide) (by decide)) (g := (mkF m 45 #[.val (.ref a), .val (.ref s'), .val (.int (0 : Int32)), .val (.int (1 : Int32)), .val .null, .val (.ref b3)] [(.int (1 : Int32)), (.ref b3), (.ref a)])) rfl (by rw [hml]; rfl) (argsL := [(.ref b3), (.int (1 : Int32))]) (rest := [(.ref a)]) (lenOf pd___BI_B rfl) rfl (by show 2 * 0 + _ ≤ _; exact Nat.le_of_eq rfl) (hb hby d3_45) (fun _ _ => ⟨rfl, rfl, (by decide : 2 + 0 ≤ _), (by decide : 3 + 0 ≤ _)⟩)
    dsimp only [Pt.U, Pt.locs, Pt.cells, Pt.slots] at X14 l14 y14 z14 st14 hQ14
    subst l14 y14 z14
    obtain ⟨rfl, N14q, e14⟩ := hQ14
    have N14 := Fr.app N3 N14q
    refine go_of (B := (T14.setTop (mkF m 48 #[.val (.ref a), .val (.ref s'), .val (.int (0 : Int32)), .val (.int (1 : Int32)), .val .null, .val (.ref b3)] [(.int (1 : Int32)), (.ref a)]))) (st14) ?_
    have cf_15 := (E.keep K3)
    have cf_16 := (F2.keep K3 nin0)
    obtain ⟨T17, h17, X17, e17, W17, st17⟩ := putFN X14 hx hZ hown (wd 26 rfl) Via.refl e14 cf_16 cf_15 (Or.inr ⟨(wd 22 rfl), rfl, hnm⟩) (wd 2 rfl) (ty := .byte) (v' := (.int (nar .byte (1 : Int32)))) (by decide) rfl (fits_nar_byte _) (g := (mkF m 48 #[.val (.ref a), .val (.ref s'), .val (.int (0 : Int32)), .val (.int (1 : Int32)), .val .null, .val (.ref b3)] [(.int (1 : Int32)), (.ref a)])) rfl rfl (hb hby d3_48)
    have sz17 := W17.size
    have Fw17 := cf_16.same W17
    have N17 := Fr.snoc X17 N14 (g : n0 ≤ a)
    refine go_of (B := (T17.setTop (mkF m 51 #[.val (.ref a), .val (.ref s'), .val (.int (0 : Int32)), .val (.int (1 : Int32)), .val .null, .val (.ref b3)] []))) (st17) ?_
    refine go_of (B := (T17.setTop (mkF m 54 #[.val (.ref a), .val (.ref s'), .val (.int (0 : Int32)), .val (.int (1 : Int32)), .val .null, .val (.ref b3)] [(.ref b3), (.ref a)]))) (fun _ kk => XS.aloadN X17.here hx rfl (hb hby d3_51) rfl rfl (XS.aload X17.here hx rfl (hb hby d3_52) rfl rfl kk)) ?_
    have cf_18 := (cf_15.wr W17)
    have cf_19 := ((F.keep K3 nin0).other W17 (Or.inr (slot_ne (Or.inr (wd 21 rfl)) (Or.inr (wd 22 rfl)) (by decide) (t := (.array .byte)) (t' := .byte) (by decide) (by decide))))
    obtain ⟨T20, h20, X20, e20, W20, st20⟩ := putF X17 hx hZ hown (host := "") (Or.inl (wd 25 rfl)) Via.refl e17 cf_19 cf_18 (Or.inr ⟨(wd 21 rfl), rfl, hnm⟩) (wd 2 rfl) (ty := (.array .byte)) (by decide) rfl rfl (g := (mkF m 54 #[.val (.ref a), .val (.ref s'), .val (.int (0 : Int32)), .val (.int (1 : Int32)), .val .null, .val (.ref b3)] [(.ref b3), (.ref a)])) rfl rfl (hb hby d3_54)
    have sz20 := W20.size
    have Fw20 := cf_19.same W20
    have N20 := Fr.snoc X20 N17 (g : n0 ≤ a)
    refine go_of (B := (T20.setTop (mkF m 57 #[.val (.ref a), .val (.ref s'), .val (.int (0 : Int32)), .val (.int (1 : Int32)), .val .null, .val (.ref b3)] []))) (st20) ?_
    have cf_21 := ((V3.other W17 (by first | omega | exact own_ne (by omega) | exact own_le (by omega) | exact own_lt (by omega))).other W20 (by first | omega | exact own_ne (by omega) | exact own_le (by omega) | exact own_lt (by omega)))
    have cf_22 := (Fw17.other W20 (Or.inr (slot_ne (Or.inr (wd 22 rfl)) (Or.inr (wd 21 rfl)) (by decide) (t := .byte) (t' := (.array .byte)) (by decide) (by decide))))
    have cf_23 := (cf_18.wr W20)
    refine go_end X20 (v := none) (fun _ => rfl) Bd.notSynchronized (by decide) (by decide) (Q := (Q_u_i4_1 Z a s' c0 ks gC u u2 h0 n0)) ?_ (fun fs hr => X20.returnOut hx Bd.returns (hb hby d3_57) hr)
    unfold Q_u_i4_1
    try rw [e20]
    exact ⟨rfl, N20, ((((Keep.refl h0 [a]).trans K3 all0).wr W17 (Or.inl (List.mem_of_getElem? (i := 0) rfl))).wr W20 (Or.inl (List.mem_of_getElem? (i := 0) rfl))), Or.inr ⟨b3, k3, cf_23, cf_22, Fw20, cf_21, (own_allc hc0 (fun _ q => nomatch q))⟩⟩
def Q_u_i1_1 (Z : State) (a : Addr) (s' : Addr) (c0 : Int32) (ks : ClassId) (gC : Int32) (u : Value) (u2 : Value) (h0 : Heap) (n0 : Nat) (v : Option Value) (h : Heap) (L : List Loc) : Prop := v = none ∧ Fr n0 L ∧ Keep h0 h [a] ∧ StrU Z h a 1 2 [c0]
theorem ef_u_i1_1 (m : MethodId) (a : Addr) (s' : Addr)  : entryFrame m #[(.ref a), (.ref s')] 2 = mkF m 0 #[.val (.ref a), .val (.ref s')] [] := by first | (simp [entryFrame, mkF, argsToLocals, Value.category]; done) | rfl
theorem u_i1_1 (l : Launch) (Z : State) (a0 : Array Value) (hw : TW a0 Z) (ws : List Jvm.Cond) (a : Addr) (s' : Addr) (c0 : Int32) (ks : ClassId) (gC : Int32) (u : Value) (u2 : Value) (h0 : Heap) (n0 : Nat) (Z0 : n0 ≤ h0.size) (O : Old Z n0 h0) (SC : Sta Z Z.heap "java/lang/String" "COMPACT_STRINGS" "Z" (.int gC)) (hgC : ¬ gC = (0 : Int32)) (SU : US Z) (E : Exa Z h0 a "java/lang/String") (F : Fld Z h0 a "java/lang/String" "value" "[B" u) (F2 : Fld Z h0 a "java/lang/String" "coder" "B" u2) (g : n0 ≤ a) (Vs : Arv Z h0 s' ks .char 1 [(.int c0)] (.int 0)) (hc0 : ¬ c0 < 0 ∧ ¬ (65535 : Int32) < c0) :
    own_MF l Z MN3 jdk_42_method_3_code 2 none ws (own_R 5 2 3 74) #[(.ref a), (.ref s')] h0 (Q_u_i1_1 Z a s' c0 ks gC u u2 h0 n0) := by
  have wd := @own_wd _ _ hw
  refine MetFree.of_bodySF (plainFor_of_name pn_java_lang_String) hisR ?_
  intro p e s m args below meth c s₁ Bd hml0 hP hK
  obtain ⟨rfl, hZ, hh⟩ := hP
  have hx := Bd.exec
  have hby := Bd.bytes
  have hml : c.maxLocals = 2 := hml0
  have hown : s.vm.findClass "java/lang/String" = some m.cls := findClass_of_methodNamed Bd.named
  have hnm := (name_of_methodNamed Bd.named Bd.method).1
  have X0 : Stand p l e (own_R 5 2 3 74) s m #[(.ref a), (.ref s')] below meth c s₁ [] 0 0 := Stand.of_body Bd
  have e0 : s₁.heap = h0 := by rw [← hh, Bd.state]; rfl
  have N0 := Fr.nil n0
  have lta := own_nlt (E.lt)
  have lts := own_nlt (Vs.lt)
  refine go_of (A := s₁.setTop (entryFrame m #[(.ref a), (.ref s')] 2)) (B := s₁.setTop (mkF m 0 #[.val (.ref a), .val (.ref s')] [])) (fun _ kk' => castTop (ef_u_i1_1 m a s') kk') ?_
  refine go_of (B := (s₁.setTop (mkF m 4 #[.val (.ref a), .val (.ref s')] [(.ref s'), (.int (0 : Int32)), (.ref s'), (.ref a)]))) (fun _ kk => XS.aloadN X0.here hx rfl (hb hby d2_0) rfl rfl (XS.aloadN X0.here hx rfl (hb hby d2_1) rfl rfl (XS.iconst X0.here hx rfl (hb hby d2_2) (XS.aloadN X0.here hx rfl (hb hby d2_3) rfl rfl kk)))) ?_
  obtain ⟨cl1, Ar1, q1, Sz1, Nn1, Hh1, G1⟩ := id (Vs)
  have ln1 := len_of Sz1 Nn1
  refine go_of (B := (s₁.setTop (mkF m 5 #[.val (.ref a), .val (.ref s')] [(.int (1 : Int32)), (.int (0 : Int32)), (.ref s'), (.ref a)]))) (fun _ kk => X0.arraylength hx (by rw [e0]; exact Ar1.1) (State.isArrayOf_alike hZ.alike Ar1.2.1) (g := (mkF m 4 #[.val (.ref a), .val (.ref s')] [(.ref s'), (.int (0 : Int32)), (.ref s'), (.ref a)])) rfl rfl (hb hby d2_4) _ (by rw [ln1]; exact kk)) ?_
  refine go_of (B := (s₁.setTop (mkF m 6 #[.val (.ref a), .val (.ref s')] [.null, (.int (1 : Int32)), (.int (0 : Int32)), (.ref s'), (.ref a)]))) (fun _ kk => XS.aconstNull X0.here hx rfl (hb hby d2_5) kk) ?_
  obtain ⟨_, _, ⟨T2, L2, k2, n2⟩, -, X2, ⟨Lc2, hQ2, l2, y2, z2⟩, st2⟩ := X0.specialBack hx (y := MN4) rfl hown (mvT hZ (wd 12 rfl)) (mvT hZ (wd 13 rfl)) (mvT hZ (wd 15 rfl)) (by decide) (backOf (W := 0) (u_i4_1 l Z a0 hw [] a s' c0 ks gC u u2 h0 n0 (by first | omega | exact own_ne (by omega) | exact own_le (by omega) | exact own_lt (by omega)) O SC hgC SU E F F2 g Vs hc0) hZ (wd 15 rfl) (wd 3 rfl) (by decide) (by decide)) (g := (mkF m 6 #[.val (.ref a), .val (.ref s')] [.null, (.int (1 : Int32)), (.int (0 : Int32)), (.ref s'), (.ref a)])) rfl (by rw [hml]; rfl) (Steps.refl _) (a := a) (argsL := [(.ref s'), (.int (0 : Int32)), (.int (1 : Int32)), .null]) (rest := []) (lenOf pd___CIILjava_lang_Void__V rfl) rfl (by show 2 * 0 + _ ≤ _; exact Nat.le_of_eq rfl) (hb hby d2_6) (fun _ _ => ⟨rfl, e0, (by decide : 0 + 2 ≤ _), (by decide : 0 + 3 ≤ _)⟩)
  dsimp only [Pt.U, Pt.locs, Pt.cells, Pt.slots] at X2 l2 y2 z2 st2 hQ2
  subst l2 y2 z2
  obtain ⟨rfl, N2q, K2, S2⟩ := hQ2
  have N2 := Fr.app N0 N2q
  have sz2 := K2.1
  refine go_tr (B := (T2.setTop (mkF m 9 #[.val (.ref a), .val (.ref s')] []))) (st2) ?_
  refine go_end X2 (v := none) (fun _ => rfl) Bd.notSynchronized (by decide) (by decide) (Q := (Q_u_i1_1 Z a s' c0 ks gC u u2 h0 n0)) ?_ (fun fs hr => X2.returnOut hx Bd.returns (hb hby d2_9) hr)
  unfold Q_u_i1_1
  exact ⟨rfl, N2, ((Keep.refl h0 [a]).trans K2 (allS (Or.inl (List.mem_of_getElem? (i := 0) rfl)) all0)), S2⟩
def Q_u_c5_2 (Z : State) (s' : Addr) (d : Addr) (c0 : Int32) (c1 : Int32) (ks : ClassId) (kd : ClassId) (h0 : Heap) (n0 : Nat) (v : Option Value) (h : Heap) (L : List Loc) : Prop := ∃ r : Int32, v = some (.int r) ∧ Fr n0 L ∧ Keep h0 h [d] ∧ ((r = 2 ∧ ¬ (255 : Int32) < c0 ∧ ¬ (255 : Int32) < c1 ∧ Arv Z h d kd .byte 2 [(.int (own_b8 c0)), (.int (own_b8 c1))] (.int 0)) ∨ (r = 0 ∧ (255 : Int32) < c0) ∨ (r = 1 ∧ (255 : Int32) < c1))
theorem ef_u_c5_2 (m : MethodId) (s' : Addr) (d : Addr)  : entryFrame m #[(.ref s'), (.int (0 : Int32)), (.ref d), (.int (0 : Int32)), (.int (2 : Int32))] 7 = mkF m 0 #[.val (.ref s'), .val (.int (0 : Int32)), .val (.ref d), .val (.int (0 : Int32)), .val (.int (2 : Int32)), .unset, .unset] [] := by first | (simp [entryFrame, mkF, argsToLocals, Value.category]; done) | rfl
theorem u_c5_2 (l : Launch) (Z : State) (a0 : Array Value) (hw : TW a0 Z) (ws : List Jvm.Cond) (s' : Addr) (d : Addr) (c0 : Int32) (c1 : Int32) (ks : ClassId) (kd : ClassId) (h0 : Heap) (n0 : Nat) (Z0 : n0 ≤ h0.size) (Vs : Arv Z h0 s' ks .char 2 [(.int c0), (.int c1)] (.int 0)) (Vd : Arv Z h0 d kd .byte 2 [(.int 0), (.int 0)] (.int 0)) (nsd : s' ≠ d) (g : n0 ≤ d) :
    own_MF l Z MN13 jdk_52_method_21_code 7 (some .int) ws (own_R 0 0 0 0) #[(.ref s'), (.int (0 : Int32)), (.ref d), (.int (0 : Int32)), (.int (2 : Int32))] h0 (Q_u_c5_2 Z s' d c0 c1 ks kd h0 n0) := by
  have wd := @own_wd _ _ hw
  refine MetFree.of_bodySF (plainFor_of_name pn_java_lang_StringUTF16) hisR ?_
  intro p e s m args below meth c s₁ Bd hml0 hP hK
  obtain ⟨rfl, hZ, hh⟩ := hP
  have hx := Bd.exec
  have hby := Bd.bytes
  have hml : c.maxLocals = 7 := hml0
  have hown : s.vm.findClass "java/lang/StringUTF16" = some m.cls := findClass_of_methodNamed Bd.named
  have hnm := (name_of_methodNamed Bd.named Bd.method).1
  have X0 : Stand p l e (own_R 0 0 0 0) s m #[(.ref s'), (.int (0 : Int32)), (.ref d), (.int (0 : Int32)), (.int (2 : Int32))] below meth c s₁ [] 0 0 := Stand.of_body Bd
  have e0 : s₁.heap = h0 := by rw [← hh, Bd.state]; rfl
  have N0 := Fr.nil n0
  have lts := own_nlt (Vs.lt)
  have ltd := own_nlt (Vd.lt)
  refine go_of (A := s₁.setTop (entryFrame m #[(.ref s'), (.int (0 : Int32)), (.ref d), (.int (0 : Int32)), (.int (2 : Int32))] 7)) (B := s₁.setTop (mkF m 0 #[.val (.ref s'), .val (.int (0 : Int32)), .val (.ref d), .val (.int (0 : Int32)), .val (.int (2 : Int32)), .unset, .unset] [])) (fun _ kk' => castTop (ef_u_c5_2 m s' d) kk') ?_
  refine go_of (B := (s₁.setTop (mkF m 11 #[.val (.ref s'), .val (.int (0 : Int32)), .val (.ref d), .val (.int (0 : Int32)), .val (.int (2 : Int32)), .val (.int (0 : Int32)), .unset] [(.ref s')]))) (fun _ kk => XS.iconst X0.here hx rfl (hb hby d8_0) (XS.istore X0.here hx rfl (hb hby d8_1) rfl rfl (XS.iload X0.here hx rfl (hb hby d8_3) rfl (XS.iload X0.here hx rfl (hb hby d8_5) rfl (XS.icmpNo X0.here hx rfl (hb hby d8_7) rfl (tlt (by decide : (0 : Int32) < (2 : Int32))).2.1 (XS.aloadN X0.here hx rfl (hb hby d8_10) rfl rfl kk)))))) ?_
  refine go_of (B := (s₁.setTop (mkF m 12 #[.val (.ref s'), .val (.int (0 : Int32)), .val (.ref d), .val (.int (0 : Int32)), .val (.int (2 : Int32)), .val (.int (0 : Int32)), .unset] [(.int (0 : Int32)), (.ref s')]))) (fun _ kk => XS.iloadN X0.here hx rfl (hb hby d8_11) rfl kk) ?_
  obtain ⟨cl1, Ar1, q1, Sz1, Nn1, Hh1, G1⟩ := id (Vs)
  refine go_of (B := (s₁.setTop (mkF m 20 #[.val (.ref s'), .val (.int (0 : Int32)), .val (.ref d), .val (.int (0 : Int32)), .val (.int (2 : Int32)), .val (.int (0 : Int32)), .val (.int c0)] [(.int (255 : Int32)), (.int c0)]))) (fun _ kk => X0.caload hx (j := (0 : Int32)) (v := (.int c0)) (by rw [e0]; exact Ar1.1) (State.isArrayOf_alike hZ.alike Ar1.2.1) Ar1.2.2 (inb_of Sz1 ⟨by decide, by decide⟩) (Hh1.at (inb_of Sz1 ⟨by decide, by decide⟩) rfl) (g := (mkF m 12 #[.val (.ref s'), .val (.int (0 : Int32)), .val (.ref d), .val (.int (0 : Int32)), .val (.int (2 : Int32)), .val (.int (0 : Int32)), .unset] [(.int (0 : Int32)), (.ref s')])) rfl rfl (hb hby d8_12) _ (XS.istore X0.here hx rfl (hb hby d8_13) rfl rfl (XS.iload X0.here hx rfl (hb hby d8_15) rfl (XS.sipush X0.here hx rfl (hb hby d8_17) kk)))) ?_
  by_cases hcc2 : (255 : Int32) < c0
  · refine go_of (B := (s₁.setTop (mkF m 25 #[.val (.ref s'), .val (.int (0 : Int32)), .val (.ref d), .val (.int (0 : Int32)), .val (.int (2 : Int32)), .val (.int (0 : Int32)), .val (.int c0)] [(.int (0 : Int32))]))) (fun _ kk => XS.icmpNo X0.here hx rfl (hb hby d8_20) rfl (tlt hcc2).2.2.2 (XS.iload X0.here hx rfl (hb hby d8_23) rfl kk)) ?_
    refine go_end X0 (v := some (.int (0 : Int32))) (fun h => by rw [Bd.returns] at h; cases h) Bd.notSynchronized (by decide) (by decide) (Q := (Q_u_c5_2 Z s' d c0 c1 ks kd h0 n0)) ?_ (fun fs hr => own_retI X0 hx Bd.returns (hb hby d8_25) hr)
    unfold Q_u_c5_2
    try rw [e0]
    exact ⟨_, rfl, N0, (Keep.refl h0 [d]), Or.inr (Or.inl ⟨rfl, hcc2⟩)⟩
  · refine go_of (B := (s₁.setTop (mkF m 31 #[.val (.ref s'), .val (.int (0 : Int32)), .val (.ref d), .val (.int (0 : Int32)), .val (.int (2 : Int32)), .val (.int (0 : Int32)), .val (.int c0)] [(.int (c0.toInt8.toInt32)), (.int (0 : Int32)), (.ref d)]))) (fun _ kk => XS.icmpYes X0.here hx rfl (pc0 := 20) (pc' := 26) rfl (hb hby d8_20) rfl (flt hcc2).2.2.2 (by decide) (by decide) (XS.aloadN X0.here hx rfl (hb hby d8_26) rfl rfl (XS.iloadN X0.here hx rfl (hb hby d8_27) rfl (XS.iload X0.here hx rfl (hb hby d8_28) rfl (XS.i2b X0.here hx rfl (hb hby d8_30) rfl kk))))) ?_
    obtain ⟨cl3, Ar3, q3, Sz3, Nn3, Hh3, G3⟩ := id (Vd)
    obtain ⟨T4, h4, X4, e4, W4, st4⟩ := stB X0 hx hZ e0 Ar3 (j := (0 : Int32)) (inb_of Sz3 ⟨by decide, by decide⟩) (g := (mkF m 31 #[.val (.ref s'), .val (.int (0 : Int32)), .val (.ref d), .val (.int (0 : Int32)), .val (.int (2 : Int32)), .val (.int (0 : Int32)), .val (.int c0)] [(.int (c0.toInt8.toInt32)), (.int (0 : Int32)), (.ref d)])) rfl rfl (hb hby d8_31)
    have sz4 := W4.size
    have N4 := Fr.snoc X4 N0 (g : n0 ≤ d)
    have V4 : Arv Z h4 d kd .byte (2 : Int32) [(.int ((c0.toInt8.toInt32).toInt8.toInt32)), (.int (0 : Int32))] (.int (0 : Int32)) := Arv.set Ar3 q3 Sz3 Nn3 Hh3 G3 (fits_nar_byte _) W4 0 rfl (Nat.le_of_ble_eq_true rfl)
    rw [own_bb] at V4
    refine go_of (B := (T4.setTop (mkF m 32 #[.val (.ref s'), .val (.int (0 : Int32)), .val (.ref d), .val (.int (0 : Int32)), .val (.int (2 : Int32)), .val (.int (0 : Int32)), .val (.int c0)] []))) (st4) ?_
    refine go_of (B := (T4.setTop (mkF m 7 #[.val (.ref s'), .val (.int (1 : Int32)), .val (.ref d), .val (.int (1 : Int32)), .val (.int (2 : Int32)), .val (.int (1 : Int32)), .val (.int c0)] [(.int (2 : Int32)), (.int (1 : Int32))]))) (fun _ kk => XS.iinc X4.here hx rfl (hb hby d8_32) rfl rfl (XS.iinc X4.here hx rfl (hb hby d8_35) rfl rfl (XS.iinc X4.here hx rfl (hb hby d8_38) rfl rfl (XS.goto X4.here hx rfl (pc0 := 41) (pc' := 3) rfl (hb hby d8_41) (by decide) (by decide) (XS.iload X4.here hx rfl (hb hby d8_3) rfl (XS.iload X4.here hx rfl (hb hby d8_5) rfl kk)))))) ?_
    refine go_of (B := (T4.setTop (mkF m 12 #[.val (.ref s'), .val (.int (1 : Int32)), .val (.ref d), .val (.int (1 : Int32)), .val (.int (2 : Int32)), .val (.int (1 : Int32)), .val (.int c0)] [(.int (1 : Int32)), (.ref s')]))) (fun _ kk => XS.icmpNo X4.here hx rfl (hb hby d8_7) rfl (tlt (by decide : (1 : Int32) < (2 : Int32))).2.1 (XS.aloadN X4.here hx rfl (hb hby d8_10) rfl rfl (XS.iloadN X4.here hx rfl (hb hby d8_11) rfl kk))) ?_
    have cf_5 := (Vs.other W4 (by first | omega | exact own_ne (by omega) | exact own_le (by omega) | exact own_lt (by omega)))
    obtain ⟨cl6, Ar6, q6, Sz6, Nn6, Hh6, G6⟩ := id (cf_5)
    refine go_of (B := (T4.setTop (mkF m 20 #[.val (.ref s'), .val (.int (1 : Int32)), .val (.ref d), .val (.int (1 : Int32)), .val (.int (2 : Int32)), .val (.int (1 : Int32)), .val (.int c1)] [(.int (255 : Int32)), (.int c1)]))) (fun _ kk => X4.caload hx (j := (1 : Int32)) (v := (.int c1)) (by rw [e4]; exact Ar6.1) (State.isArrayOf_alike hZ.alike Ar6.2.1) Ar6.2.2 (inb_of Sz6 ⟨by decide, by decide⟩) (Hh6.at (inb_of Sz6 ⟨by decide, by decide⟩) rfl) (g := (mkF m 12 #[.val (.ref s'), .val (.int (1 : Int32)), .val (.ref d), .val (.int (1 : Int32)), .val (.int (2 : Int32)), .val (.int (1 : Int32)), .val (.int c0)] [(.int (1 : Int32)), (.ref s')])) rfl rfl (hb hby d8_12) _ (XS.istore X4.here hx rfl (hb hby d8_13) rfl rfl (XS.iload X4.here hx rfl (hb hby d8_15) rfl (XS.sipush X4.here hx rfl (hb hby d8_17) kk)))) ?_
    by_cases hcc7 : (255 : Int32) < c1
    · refine go_of (B := (T4.setTop (mkF m 25 #[.val (.ref s'), .val (.int (1 : Int32)), .val (.ref d), .val (.int (1 : Int32)), .val (.int (2 : Int32)), .val (.int (1 : Int32)), .val (.int c1)] [(.int (1 : Int32))]))) (fun _ kk => XS.icmpNo X4.here hx rfl (hb hby d8_20) rfl (tlt hcc7).2.2.2 (XS.iload X4.here hx rfl (hb hby d8_23) rfl kk)) ?_
      refine go_end X4 (v := some (.int (1 : Int32))) (fun h => by rw [Bd.returns] at h; cases h) Bd.notSynchronized (by decide) (by decide) (Q := (Q_u_c5_2 Z s' d c0 c1 ks kd h0 n0)) ?_ (fun fs hr => own_retI X4 hx Bd.returns (hb hby d8_25) hr)
      unfold Q_u_c5_2
      try rw [e4]
      exact ⟨_, rfl, N4, ((Keep.refl h0 [d]).wr W4 (Or.inl (List.mem_of_getElem? (i := 0) rfl))), Or.inr (Or.inr (⟨rfl, hcc7⟩))⟩
    · refine go_of (B := (T4.setTop (mkF m 31 #[.val (.ref s'), .val (.int (1 : Int32)), .val (.ref d), .val (.int (1 : Int32)), .val (.int (2 : Int32)), .val (.int (1 : Int32)), .val (.int c1)] [(.int (c1.toInt8.toInt32)), (.int (1 : Int32)), (.ref d)]))) (fun _ kk => XS.icmpYes X4.here hx rfl (pc0 := 20) (pc' := 26) rfl (hb hby d8_20) rfl (flt hcc7).2.2.2 (by decide) (by decide) (XS.aloadN X4.here hx rfl (hb hby d8_26) rfl rfl (XS.iloadN X4.here hx rfl (hb hby d8_27) rfl (XS.iload X4.here hx rfl (hb hby d8_28) rfl (XS.i2b X4.here hx rfl (hb hby d8_30) rfl kk))))) ?_
      obtain ⟨cl8, Ar8, q8, Sz8, Nn8, Hh8, G8⟩ := id (V4)
      obtain ⟨T9, h9, X9, e9, W9, st9⟩ := stB X4 hx hZ e4 Ar8 (j := (1 : Int32)) (inb_of Sz8 ⟨by decide, by decide⟩) (g := (mkF m 31 #[.val (.ref s'), .val (.int (1 : Int32)), .val (.ref d), .val (.int (1 : Int32)), .val (.int (2 : Int32)), .val (.int (1 : Int32)), .val (.int c1)] [(.int (c1.toInt8.toInt32)), (.int (1 : Int32)), (.ref d)])) rfl rfl (hb hby d8_31)
      have sz9 := W9.size
      have N9 := Fr.snoc X9 N4 (g : n0 ≤ d)
      have V9 : Arv Z h9 d kd .byte (2 : Int32) [(.int (c0.toInt8.toInt32)), (.int ((c1.toInt8.toInt32).toInt8.toInt32))] (.int (0 : Int32)) := Arv.set Ar8 q8 Sz8 Nn8 Hh8 G8 (fits_nar_byte _) W9 1 rfl (Nat.le_of_ble_eq_true rfl)
      rw [own_bb] at V9
      refine go_of (B := (T9.setTop (mkF m 32 #[.val (.ref s'), .val (.int (1 : Int32)), .val (.ref d), .val (.int (1 : Int32)), .val (.int (2 : Int32)), .val (.int (1 : Int32)), .val (.int c1)] []))) (st9) ?_
      refine go_of (B := (T9.setTop (mkF m 7 #[.val (.ref s'), .val (.int (2 : Int32)), .val (.ref d), .val (.int (2 : Int32)), .val (.int (2 : Int32)), .val (.int (2 : Int32)), .val (.int c1)] [(.int (2 : Int32)), (.int (2 : Int32))]))) (fun _ kk => XS.iinc X9.here hx rfl (hb hby d8_32) rfl rfl (XS.iinc X9.here hx rfl (hb hby d8_35) rfl rfl (XS.iinc X9.here hx rfl (hb hby d8_38) rfl rfl (XS.goto X9.here hx rfl (pc0 := 41) (pc' := 3) rfl (hb hby d8_41) (by decide) (by decide) (XS.iload X9.here hx rfl (hb hby d8_3) rfl (XS.iload X9.here hx rfl (hb hby d8_5) rfl kk)))))) ?_
      refine go_of (B := (T9.setTop (mkF m 46 #[.val (.ref s'), .val (.int (2 : Int32)), .val (.ref d), .val (.int (2 : Int32)), .val (.int (2 : Int32)), .val (.int (2 : Int32)), .val (.int c1)] [(.int (2 : Int32))]))) (fun _ kk => XS.icmpYes X9.here hx rfl (pc0 := 7) (pc' := 44) rfl (hb hby d8_7) rfl (flt (by decide : ¬ ((2 : Int32) < (2 : Int32)))).2.1 (by decide) (by decide) (XS.iload X9.here hx rfl (hb hby d8_44) rfl kk)) ?_
      refine go_end X9 (v := some (.int (2 : Int32))) (fun h => by rw [Bd.returns] at h; cases h) Bd.notSynchronized (by decide) (by decide) (Q := (Q_u_c5_2 Z s' d c0 c1 ks kd h0 n0)) ?_ (fun fs hr => own_retI X9 hx Bd.returns (hb hby d8_46) hr)
      unfold Q_u_c5_2
      try rw [e9]
      exact ⟨_, rfl, N9, (((Keep.refl h0 [d]).wr W4 (Or.inl (List.mem_of_getElem? (i := 0) rfl))).wr W9 (Or.inl (List.mem_of_getElem? (i := 0) rfl))), Or.inl ⟨rfl, hcc2, hcc7, V9⟩⟩
def Q_u_nbl_2 (Z : State)  (h0 : Heap) (n0 : Nat) (v : Option Value) (h : Heap) (L : List Loc) : Prop := v = some (.int 4) ∧ Fr n0 L ∧ h = h0
theorem ef_u_nbl_2 (m : MethodId)   : entryFrame m #[(.int (2 : Int32))] 1 = mkF m 0 #[.val (.int (2 : Int32))] [] := by first | (simp [entryFrame, mkF, argsToLocals, Value.category]; done) | rfl
theorem u_nbl_2 (l : Launch) (Z : State) (a0 : Array Value) (hw : TW a0 Z) (ws : List Jvm.Cond)  (h0 : Heap) (n0 : Nat) (Z0 : n0 ≤ h0.size)  :
    own_MF l Z MN16 jdk_52_method_3_code 1 (some .int) ws (own_R 0 0 0 0) #[(.int (2 : Int32))] h0 (Q_u_nbl_2 Z  h0 n0) := by
  have wd := @own_wd _ _ hw
  refine MetFree.of_bodySF (plainFor_of_name pn_java_lang_StringUTF16) hisR ?_
  intro p e s m args below meth c s₁ Bd hml0 hP hK
  obtain ⟨rfl, hZ, hh⟩ := hP
  have hx := Bd.exec
  have hby := Bd.bytes
  have hml : c.maxLocals = 1 := hml0
  have hown : s.vm.findClass "java/lang/StringUTF16" = some m.cls := findClass_of_methodNamed Bd.named
  have hnm := (name_of_methodNamed Bd.named Bd.method).1
  have X0 : Stand p l e (own_R 0 0 0 0) s m #[(.int (2 : Int32))] below meth c s₁ [] 0 0 := Stand.of_body Bd
  have e0 : s₁.heap = h0 := by rw [← hh, Bd.state]; rfl
  have N0 := Fr.nil n0
  refine go_of (A := s₁.setTop (entryFrame m #[(.int (2 : Int32))] 1)) (B := s₁.setTop (mkF m 0 #[.val (.int (2 : Int32))] [])) (fun _ kk' => castTop (ef_u_nbl_2 m ) kk') ?_
  refine go_of (B := (s₁.setTop (mkF m 56 #[.val (.int (2 : Int32))] [(.int (2 : Int32))]))) (fun _ kk => XS.iloadN X0.here hx rfl (hb hby d20_0) rfl (XS.ifYes X0.here hx rfl (pc0 := 1) (pc' := 12) rfl (hb hby d20_1) rfl ((if0 _ _).trans (flt (by decide : ¬ ((2 : Int32) < (0 : Int32)))).2.1) (by decide) (by decide) (XS.iloadN X0.here hx rfl (hb hby d20_12) rfl (X0.ldcInt hx hown (mvT hZ (wd 91 rfl)) (g := (mkF m 13 #[.val (.int (2 : Int32))] [(.int (2 : Int32))])) rfl (hb hby d20_13) _ (XS.icmpYes X0.here hx rfl (pc0 := 15) (pc' := 55) rfl (hb hby d20_15) rfl (tlt (by decide : (2 : Int32) < (1073741823 : Int32))).1 (by decide) (by decide) (XS.iloadN X0.here hx rfl (hb hby d20_55) rfl kk)))))) ?_
  refine go_of (B := (s₁.setTop (mkF m 58 #[.val (.int (2 : Int32))] [(.int (4 : Int32))]))) (fun _ kk => XS.iconst X0.here hx rfl (hb hby d20_56) (XS.ishl X0.here hx rfl (hb hby d20_57) rfl kk)) ?_
  refine go_end X0 (v := some (.int (4 : Int32))) (fun h => by rw [Bd.returns] at h; cases h) Bd.notSynchronized (by decide) (by decide) (Q := (Q_u_nbl_2 Z  h0 n0)) ?_ (fun fs hr => own_retI X0 hx Bd.returns (hb hby d20_58) hr)
  unfold Q_u_nbl_2
  try rw [e0]
  exact ⟨rfl, N0, rfl⟩
def Q_u_nbf_2 (Z : State)  (h0 : Heap) (n0 : Nat) (v : Option Value) (h : Heap) (L : List Loc) : Prop := ∃ (t : Addr) (k : ClassId), v = some (.ref t) ∧ Fr n0 L ∧ h0.size ≤ t ∧ Keep h0 h [] ∧ Arv Z h t k .byte 4 [(.int 0), (.int 0), (.int 0), (.int 0)] (.int 0)
theorem ef_u_nbf_2 (m : MethodId)   : entryFrame m #[(.int (2 : Int32))] 1 = mkF m 0 #[.val (.int (2 : Int32))] [] := by first | (simp [entryFrame, mkF, argsToLocals, Value.category]; done) | rfl
theorem u_nbf_2 (l : Launch) (Z : State) (a0 : Array Value) (hw : TW a0 Z) (ws : List Jvm.Cond)  (h0 : Heap) (n0 : Nat) (Z0 : n0 ≤ h0.size)  :
    own_MF l Z MN15 jdk_52_method_2_code 1 (some (.array .byte)) ws (own_R 1 1 4 12) #[(.int (2 : Int32))] h0 (Q_u_nbf_2 Z  h0 n0) := by
  have wd := @own_wd _ _ hw
  refine MetFree.of_bodySF (plainFor_of_name pn_java_lang_StringUTF16) hisR ?_
  intro p e s m args below meth c s₁ Bd hml0 hP hK
  obtain ⟨rfl, hZ, hh⟩ := hP
  have hx := Bd.exec
  have hby := Bd.bytes
  have hml : c.maxLocals = 1 := hml0
  have hown : s.vm.findClass "java/lang/StringUTF16" = some m.cls := findClass_of_methodNamed Bd.named
  have hnm := (name_of_methodNamed Bd.named Bd.method).1
  have X0 : Stand p l e (own_R 1 1 4 12) s m #[(.int (2 : Int32))] below meth c s₁ [] 0 0 := Stand.of_body Bd
  have e0 : s₁.heap = h0 := by rw [← hh, Bd.state]; rfl
  have N0 := Fr.nil n0
  refine go_of (A := s₁.setTop (entryFrame m #[(.int (2 : Int32))] 1)) (B := s₁.setTop (mkF m 0 #[.val (.int (2 : Int32))] [])) (fun _ kk' => castTop (ef_u_nbf_2 m ) kk') ?_
  refine go_of (B := (s₁.setTop (mkF m 1 #[.val (.int (2 : Int32))] [(.int (2 : Int32))]))) (fun _ kk => XS.iloadN X0.here hx rfl (hb hby d19_0) rfl kk) ?_
  obtain ⟨_, _, ⟨T1, L1, k1, n1⟩, -, X1, ⟨Lc1, hQ1, l1, y1, z1⟩, st1⟩ := Jvm.LawKit.callS X0 hx (y := MN16) hown (mvT hZ (wd 88 rfl)) (mvT hZ (wd 89 rfl)) (mvT hZ (wd 39 rfl)) (mvT hZ (wd 90 rfl)) (by decide) (backOf (W := 0) (u_nbl_2 l Z a0 hw [] h0 n0 (by first | omega | exact own_ne (by omega) | exact own_le (by omega) | exact own_lt (by omega))) hZ (wd 90 rfl) (wd 39 rfl) (by decide) (by decide)) (g := (mkF m 1 #[.val (.int (2 : Int32))] [(.int (2 : Int32))])) rfl (by rw [hml]; rfl) (argsL := [(.int (2 : Int32))]) (rest := []) (lenOf pd__I_I rfl) rfl (by show 2 * 0 + _ ≤ _; exact Nat.le_of_eq rfl) (hb hby d19_1) (fun _ _ => ⟨rfl, e0, (by decide : 0 + 0 ≤ _), (by decide : 0 + 0 ≤ _)⟩)
  dsimp only [Pt.U, Pt.locs, Pt.cells, Pt.slots] at X1 l1 y1 z1 st1 hQ1
  subst l1 y1 z1
  obtain ⟨rfl, N1q, e1⟩ := hQ1
  have N1 := Fr.app N0 N1q
  refine go_of (B := (T1.setTop (mkF m 4 #[.val (.int (2 : Int32))] [(.int (4 : Int32))]))) (st1) ?_
  obtain ⟨T2, h2, k2, X2, e2, E2, A2, st2⟩ := newP X1 hx hZ (wd 20 rfl) e1 (g := (mkF m 4 #[.val (.int (2 : Int32))] [(.int (4 : Int32))])) rfl (hb hby d19_4) rfl (by decide) (cap := 4) (by decide) (by decide) (by decide) (by decide)
  obtain ⟨b2, g2⟩ : ∃ z, z = h0.size := ⟨_, rfl⟩
  rw [← g2] at A2 st2
  have hi2 := own_nlt A2.lt
  have sz2 := E2.1
  have V2 : Arv Z h2 b2 k2 .byte (4 : Int32) [(.int (0 : Int32)), (.int (0 : Int32)), (.int (0 : Int32)), (.int (0 : Int32))] (.int (0 : Int32)) := (Arv.new A2 (by decide)).pad (pad_rep [] (.int (0 : Int32)) 4)
  refine go_of (B := (T2.setTop (mkF m 6 #[.val (.int (2 : Int32))] [(.ref b2)]))) (st2) ?_
  refine go_end X2 (v := some (.ref b2)) (fun h => by rw [Bd.returns] at h; cases h) Bd.notSynchronized (by decide) (by decide) (Q := (Q_u_nbf_2 Z  h0 n0)) ?_ (fun fs hr => own_retA X2 hx Bd.returns rfl rfl (hb hby d19_6) hr)
  unfold Q_u_nbf_2
  try rw [e2]
  exact ⟨b2, k2, rfl, N1, by omega, ((Keep.refl h0 []).ext E2), V2⟩
def Q_u_tob_2 (Z : State) (s' : Addr) (c0 : Int32) (c1 : Int32) (ks : ClassId) (h0 : Heap) (n0 : Nat) (v : Option Value) (h : Heap) (L : List Loc) : Prop := ∃ (t : Addr) (k : ClassId), v = some (.ref t) ∧ Fr n0 L ∧ h0.size ≤ t ∧ Keep h0 h [] ∧ Arv Z h t k .byte 4 [(.int (own_b0 c0)), (.int (own_b1 c0)), (.int (own_b0 c1)), (.int (own_b1 c1))] (.int 0)
theorem ef_u_tob_2 (m : MethodId) (s' : Addr)  : entryFrame m #[(.ref s'), (.int (0 : Int32)), (.int (2 : Int32))] 5 = mkF m 0 #[.val (.ref s'), .val (.int (0 : Int32)), .val (.int (2 : Int32)), .unset, .unset] [] := by first | (simp [entryFrame, mkF, argsToLocals, Value.category]; done) | rfl
theorem u_tob_2 (l : Launch) (Z : State) (a0 : Array Value) (hw : TW a0 Z) (ws : List Jvm.Cond) (s' : Addr) (c0 : Int32) (c1 : Int32) (ks : ClassId) (h0 : Heap) (n0 : Nat) (Z0 : n0 ≤ h0.size) (O : Old Z n0 h0) (SU : US Z) (Vs : Arv Z h0 s' ks .char 2 [(.int c0), (.int c1)] (.int 0)) :
    own_MF l Z MN18 jdk_52_method_14_code 5 (some (.array .byte)) ws (own_R 2 1 4 24) #[(.ref s'), (.int (0 : Int32)), (.int (2 : Int32))] h0 (Q_u_tob_2 Z s' c0 c1 ks h0 n0) := by
  have wd := @own_wd _ _ hw
  refine MetFree.of_bodySF (plainFor_of_name pn_java_lang_StringUTF16) hisR ?_
  intro p e s m args below meth c s₁ Bd hml0 hP hK
  obtain ⟨rfl, hZ, hh⟩ := hP
  have hx := Bd.exec
  have hby := Bd.bytes
  have hml : c.maxLocals = 5 := hml0
  have hown : s.vm.findClass "java/lang/StringUTF16" = some m.cls := findClass_of_methodNamed Bd.named
  have hnm := (name_of_methodNamed Bd.named Bd.method).1
  have X0 : Stand p l e (own_R 2 1 4 24) s m #[(.ref s'), (.int (0 : Int32)), (.int (2 : Int32))] below meth c s₁ [] 0 0 := Stand.of_body Bd
  have e0 : s₁.heap = h0 := by rw [← hh, Bd.state]; rfl
  have N0 := Fr.nil n0
  have lts := own_nlt (Vs.lt)
  refine go_of (A := s₁.setTop (entryFrame m #[(.ref s'), (.int (0 : Int32)), (.int (2 : Int32))] 5)) (B := s₁.setTop (mkF m 0 #[.val (.ref s'), .val (.int (0 : Int32)), .val (.int (2 : Int32)), .unset, .unset] [])) (fun _ kk' => castTop (ef_u_tob_2 m s') kk') ?_
  refine go_of (B := (s₁.setTop (mkF m 1 #[.val (.ref s'), .val (.int (0 : Int32)), .val (.int (2 : Int32)), .unset, .unset] [(.int (2 : Int32))]))) (fun _ kk => XS.iloadN X0.here hx rfl (hb hby d18_0) rfl kk) ?_
  obtain ⟨_, _, ⟨T1, L1, k1, n1⟩, -, X1, ⟨Lc1, hQ1, l1, y1, z1⟩, st1⟩ := Jvm.LawKit.callS X0 hx (y := MN15) hown (mvT hZ (wd 85 rfl)) (mvT hZ (wd 86 rfl)) (mvT hZ (wd 39 rfl)) (mvT hZ (wd 87 rfl)) (by decide) (backOf (W := 0) (u_nbf_2 l Z a0 hw [] h0 n0 (by first | omega | exact own_ne (by omega) | exact own_le (by omega) | exact own_lt (by omega))) hZ (wd 87 rfl) (wd 39 rfl) (by decide) (by decide)) (g := (mkF m 1 #[.val (.ref s'), .val (.int (0 : Int32)), .val (.int (2 : Int32)), .unset, .unset] [(.int (2 : Int32))])) rfl (by rw [hml]; rfl) (argsL := [(.int (2 : Int32))]) (rest := []) (lenOf pd__I__B rfl) rfl (by show 2 * 0 + _ ≤ _; exact Nat.le_of_eq rfl) (hb hby d18_1) (fun _ _ => ⟨rfl, e0, (by decide : 0 + 1 ≤ _), (by decide : 0 + 4 ≤ _)⟩)
  dsimp only [Pt.U, Pt.locs, Pt.cells, Pt.slots] at X1 l1 y1 z1 st1 hQ1
  subst l1 y1 z1
  obtain ⟨b1, k1, rfl, N1q, lo1, K1, V1⟩ := hQ1
  have lo1 := own_nle lo1
  have N1 := Fr.app N0 N1q
  have hi1 := own_nlt (V1.lt)
  have sz1 := K1.1
  refine go_of (B := (T1.setTop (mkF m 4 #[.val (.ref s'), .val (.int (0 : Int32)), .val (.int (2 : Int32)), .unset, .unset] [(.ref b1)]))) (st1) ?_
  refine go_of (B := (T1.setTop (mkF m 14 #[.val (.ref s'), .val (.int (0 : Int32)), .val (.int (2 : Int32)), .val (.ref b1), .val (.int (0 : Int32))] []))) (fun _ kk => XS.astoreN X1.here hx rfl (hb hby d18_4) rfl rfl rfl (XS.iconst X1.here hx rfl (hb hby d18_5) (XS.istore X1.here hx rfl (hb hby d18_6) rfl rfl (XS.iload X1.here hx rfl (hb hby d18_8) rfl (XS.iloadN X1.here hx rfl (hb hby d18_10) rfl (XS.icmpNo X1.here hx rfl (hb hby d18_11) rfl (tlt (by decide : (0 : Int32) < (2 : Int32))).2.1 kk)))))) ?_
  refine go_of (B := (T1.setTop (mkF m 19 #[.val (.ref s'), .val (.int (0 : Int32)), .val (.int (2 : Int32)), .val (.ref b1), .val (.int (0 : Int32))] [(.int (0 : Int32)), (.ref s'), (.int (0 : Int32)), (.ref b1)]))) (fun _ kk => XS.aloadN X1.here hx rfl (hb hby d18_14) rfl rfl (XS.iload X1.here hx rfl (hb hby d18_15) rfl (XS.aloadN X1.here hx rfl (hb hby d18_17) rfl rfl (XS.iloadN X1.here hx rfl (hb hby d18_18) rfl kk)))) ?_
  have cf_2 := (Vs.keep K1 nin0)
  obtain ⟨cl3, Ar3, q3, Sz3, Nn3, Hh3, G3⟩ := id (cf_2)
  refine go_of (B := (T1.setTop (mkF m 20 #[.val (.ref s'), .val (.int (0 : Int32)), .val (.int (2 : Int32)), .val (.ref b1), .val (.int (0 : Int32))] [(.int c0), (.int (0 : Int32)), (.ref b1)]))) (fun _ kk => X1.caload hx (j := (0 : Int32)) (v := (.int c0)) (by exact Ar3.1) (State.isArrayOf_alike hZ.alike Ar3.2.1) Ar3.2.2 (inb_of Sz3 ⟨by decide, by decide⟩) (Hh3.at (inb_of Sz3 ⟨by decide, by decide⟩) rfl) (g := (mkF m 19 #[.val (.ref s'), .val (.int (0 : Int32)), .val (.int (2 : Int32)), .val (.ref b1), .val (.int (0 : Int32))] [(.int (0 : Int32)), (.ref s'), (.int (0 : Int32)), (.ref b1)])) rfl rfl (hb hby d18_19) _ kk) ?_
  have cf_4 := (O.keep K1 all0)
  obtain ⟨_, _, ⟨T5, L5, k5, n5⟩, -, X5, ⟨Lc5, hQ5, l5, y5, z5⟩, st5⟩ := Jvm.LawKit.callS X1 hx (y := MN17) hown (mvT hZ (wd 92 rfl)) (mvT hZ (wd 93 rfl)) (mvT hZ (wd 39 rfl)) (mvT hZ (wd 94 rfl)) (by decide) (backOf (W := 0) (u_put l Z a0 hw [] b1 (0 : Int32) c0 (4 : Int32) _ 0 1 k1 T1.heap n0 (by first | omega | exact own_ne (by omega) | exact own_le (by omega) | exact own_lt (by omega)) cf_4 SU V1 (by first | omega | exact own_ne (by omega) | exact own_le (by omega) | exact own_lt (by omega)) (by decide) (by decide) rfl rfl (Nat.le_of_ble_eq_true rfl) (Nat.le_of_ble_eq_true rfl)) hZ (wd 94 rfl) (wd 39 rfl) (by decide) (by decide)) (g := (mkF m 20 #[.val (.ref s'), .val (.int (0 : Int32)), .val (.int (2 : Int32)), .val (.ref b1), .val (.int (0 : Int32))] [(.int c0), (.int (0 : Int32)), (.ref b1)])) rfl (by rw [hml]; rfl) (argsL := [(.ref b1), (.int (0 : Int32)), (.int c0)]) (rest := []) (lenOf pd___BII_V rfl) rfl (by show 2 * 0 + _ ≤ _; exact Nat.le_of_eq rfl) (hb hby d18_20) (fun _ _ => ⟨rfl, rfl, (by decide : 1 + 0 ≤ _), (by decide : 4 + 0 ≤ _)⟩)
  dsimp only [Pt.U, Pt.locs, Pt.cells, Pt.slots] at X5 l5 y5 z5 st5 hQ5
  subst l5 y5 z5
  obtain ⟨rfl, N5q, K5, V5⟩ := hQ5
  have N5 := Fr.app N1 N5q
  have sz5 := K5.1
  refine go_of (B := (T5.setTop (mkF m 23 #[.val (.ref s'), .val (.int (0 : Int32)), .val (.int (2 : Int32)), .val (.ref b1), .val (.int (0 : Int32))] []))) (st5) ?_
  refine go_of (B := (T5.setTop (mkF m 14 #[.val (.ref s'), .val (.int (1 : Int32)), .val (.int (2 : Int32)), .val (.ref b1), .val (.int (1 : Int32))] []))) (fun _ kk => XS.iinc X5.here hx rfl (hb hby d18_23) rfl rfl (XS.iinc X5.here hx rfl (hb hby d18_26) rfl rfl (XS.goto X5.here hx rfl (pc0 := 29) (pc' := 8) rfl (hb hby d18_29) (by decide) (by decide) (XS.iload X5.here hx rfl (hb hby d18_8) rfl (XS.iloadN X5.here hx rfl (hb hby d18_10) rfl (XS.icmpNo X5.here hx rfl (hb hby d18_11) rfl (tlt (by decide : (1 : Int32) < (2 : Int32))).2.1 kk)))))) ?_
  refine go_of (B := (T5.setTop (mkF m 19 #[.val (.ref s'), .val (.int (1 : Int32)), .val (.int (2 : Int32)), .val (.ref b1), .val (.int (1 : Int32))] [(.int (1 : Int32)), (.ref s'), (.int (1 : Int32)), (.ref b1)]))) (fun _ kk => XS.aloadN X5.here hx rfl (hb hby d18_14) rfl rfl (XS.iload X5.here hx rfl (hb hby d18_15) rfl (XS.aloadN X5.here hx rfl (hb hby d18_17) rfl rfl (XS.iloadN X5.here hx rfl (hb hby d18_18) rfl kk)))) ?_
  have cf_6 := (cf_2.keep K5 (ninS (by first | omega | exact own_ne (by omega) | exact own_le (by omega) | exact own_lt (by omega)) nin0))
  obtain ⟨cl7, Ar7, q7, Sz7, Nn7, Hh7, G7⟩ := id (cf_6)
  refine go_of (B := (T5.setTop (mkF m 20 #[.val (.ref s'), .val (.int (1 : Int32)), .val (.int (2 : Int32)), .val (.ref b1), .val (.int (1 : Int32))] [(.int c1), (.int (1 : Int32)), (.ref b1)]))) (fun _ kk => X5.caload hx (j := (1 : Int32)) (v := (.int c1)) (by exact Ar7.1) (State.isArrayOf_alike hZ.alike Ar7.2.1) Ar7.2.2 (inb_of Sz7 ⟨by decide, by decide⟩) (Hh7.at (inb_of Sz7 ⟨by decide, by decide⟩) rfl) (g := (mkF m 19 #[.val (.ref s'), .val (.int (1 : Int32)), .val (.int (2 : Int32)), .val (.ref b1), .val (.int (1 : Int32))] [(.int (1 : Int32)), (.ref s'), (.int (1 : Int32)), (.ref b1)])) rfl rfl (hb hby d18_19) _ kk) ?_
  have cf_8 := (cf_4.keep K5 (allS (by first | omega | exact own_ne (by omega) | exact own_le (by omega) | exact own_lt (by omega)) all0))
  obtain ⟨_, _, ⟨T9, L9, k9, n9⟩, -, X9, ⟨Lc9, hQ9, l9, y9, z9⟩, st9⟩ := Jvm.LawKit.callS X5 hx (y := MN17) hown (mvT hZ (wd 92 rfl)) (mvT hZ (wd 93 rfl)) (mvT hZ (wd 39 rfl)) (mvT hZ (wd 94 rfl)) (by decide) (backOf (W := 0) (u_put l Z a0 hw [] b1 (1 : Int32) c1 (4 : Int32) _ 2 3 k1 T5.heap n0 (by first | omega | exact own_ne (by omega) | exact own_le (by omega) | exact own_lt (by omega)) cf_8 SU V5 (by first | omega | exact own_ne (by omega) | exact own_le (by omega) | exact own_lt (by omega)) (by decide) (by decide) rfl rfl (Nat.le_of_ble_eq_true rfl) (Nat.le_of_ble_eq_true rfl)) hZ (wd 94 rfl) (wd 39 rfl) (by decide) (by decide)) (g := (mkF m 20 #[.val (.ref s'), .val (.int (1 : Int32)), .val (.int (2 : Int32)), .val (.ref b1), .val (.int (1 : Int32))] [(.int c1), (.int (1 : Int32)), (.ref b1)])) rfl (by rw [hml]; rfl) (argsL := [(.ref b1), (.int (1 : Int32)), (.int c1)]) (rest := []) (lenOf pd___BII_V rfl) rfl (by show 2 * 0 + _ ≤ _; exact Nat.le_of_eq rfl) (hb hby d18_20) (fun _ _ => ⟨rfl, rfl, (by decide : 1 + 0 ≤ _), (by decide : 4 + 0 ≤ _)⟩)
  dsimp only [Pt.U, Pt.locs, Pt.cells, Pt.slots] at X9 l9 y9 z9 st9 hQ9
  subst l9 y9 z9
  obtain ⟨rfl, N9q, K9, V9⟩ := hQ9
  have N9 := Fr.app N5 N9q
  have sz9 := K9.1
  refine go_of (B := (T9.setTop (mkF m 23 #[.val (.ref s'), .val (.int (1 : Int32)), .val (.int (2 : Int32)), .val (.ref b1), .val (.int (1 : Int32))] []))) (st9) ?_
  refine go_of (B := (T9.setTop (mkF m 32 #[.val (.ref s'), .val (.int (2 : Int32)), .val (.int (2 : Int32)), .val (.ref b1), .val (.int (2 : Int32))] []))) (fun _ kk => XS.iinc X9.here hx rfl (hb hby d18_23) rfl rfl (XS.iinc X9.here hx rfl (hb hby d18_26) rfl rfl (XS.goto X9.here hx rfl (pc0 := 29) (pc' := 8) rfl (hb hby d18_29) (by decide) (by decide) (XS.iload X9.here hx rfl (hb hby d18_8) rfl (XS.iloadN X9.here hx rfl (hb hby d18_10) rfl (XS.icmpYes X9.here hx rfl (pc0 := 11) (pc' := 32) rfl (hb hby d18_11) rfl (flt (by decide : ¬ ((2 : Int32) < (2 : Int32)))).2.1 (by decide) (by decide) kk)))))) ?_
  refine go_of (B := (T9.setTop (mkF m 33 #[.val (.ref s'), .val (.int (2 : Int32)), .val (.int (2 : Int32)), .val (.ref b1), .val (.int (2 : Int32))] [(.ref b1)]))) (fun _ kk => XS.aloadN X9.here hx rfl (hb hby d18_32) rfl rfl kk) ?_
  refine go_end X9 (v := some (.ref b1)) (fun h => by rw [Bd.returns] at h; cases h) Bd.notSynchronized (by decide) (by decide) (Q := (Q_u_tob_2 Z s' c0 c1 ks h0 n0)) ?_ (fun fs hr => own_retA X9 hx Bd.returns rfl rfl (hb hby d18_33) hr)
  unfold Q_u_tob_2
  exact ⟨b1, k1, rfl, N9, by omega, ((((Keep.refl h0 []).trans K1 all0).trans K5 (allS (Or.inr (by first | omega | exact own_ne (by omega) | exact own_le (by omega) | exact own_lt (by omega))) all0)).trans K9 (allS (Or.inr (by first | omega | exact own_ne (by omega) | exact own_le (by omega) | exact own_lt (by omega))) all0)), V9⟩
def Q_u_c3_2 (Z : State) (s' : Addr) (c0 : Int32) (c1 : Int32) (ks : ClassId) (h0 : Heap) (n0 : Nat) (v : Option Value) (h : Heap) (L : List Loc) : Prop := ∃ (t : Addr) (k : ClassId), v = some (.ref t) ∧ Fr n0 L ∧ h0.size ≤ t ∧ Keep h0 h [] ∧ ((¬ (255 : Int32) < c0 ∧ ¬ (255 : Int32) < c1 ∧ Arv Z h t k .byte 2 [(.int (own_b8 c0)), (.int (own_b8 c1))] (.int 0)) ∨ Arv Z h t k .byte 4 [(.int (own_b0 c0)), (.int (own_b1 c0)), (.int (own_b0 c1)), (.int (own_b1 c1))] (.int 0))
theorem ef_u_c3_2 (m : MethodId) (s' : Addr)  : entryFrame m #[(.ref s'), (.int (0 : Int32)), (.int (2 : Int32))] 6 = mkF m 0 #[.val (.ref s'), .val (.int (0 : Int32)), .val (.int (2 : Int32)), .unset, .unset, .unset] [] := by first | (simp [entryFrame, mkF, argsToLocals, Value.category]; done) | rfl
theorem u_c3_2 (l : Launch) (Z : State) (a0 : Array Value) (hw : TW a0 Z) (ws : List Jvm.Cond) (s' : Addr) (c0 : Int32) (c1 : Int32) (ks : ClassId) (h0 : Heap) (n0 : Nat) (Z0 : n0 ≤ h0.size) (O : Old Z n0 h0) (SU : US Z) (Vs : Arv Z h0 s' ks .char 2 [(.int c0), (.int c1)] (.int 0)) (hc0 : ¬ c0 < 0 ∧ ¬ (65535 : Int32) < c0) (hc1 : ¬ c1 < 0 ∧ ¬ (65535 : Int32) < c1) :
    own_MF l Z MN12 jdk_52_method_16_code 6 (some (.array .byte)) ws (own_R 3 2 6 40) #[(.ref s'), (.int (0 : Int32)), (.int (2 : Int32))] h0 (Q_u_c3_2 Z s' c0 c1 ks h0 n0) := by
  have wd := @own_wd _ _ hw
  refine MetFree.of_bodySF (plainFor_of_name pn_java_lang_StringUTF16) hisR ?_
  intro p e s m args below meth c s₁ Bd hml0 hP hK
  obtain ⟨rfl, hZ, hh⟩ := hP
  have hx := Bd.exec
  have hby := Bd.bytes
  have hml : c.maxLocals = 6 := hml0
  have hown : s.vm.findClass "java/lang/StringUTF16" = some m.cls := findClass_of_methodNamed Bd.named
  have hnm := (name_of_methodNamed Bd.named Bd.method).1
  have X0 : Stand p l e (own_R 3 2 6 40) s m #[(.ref s'), (.int (0 : Int32)), (.int (2 : Int32))] below meth c s₁ [] 0 0 := Stand.of_body Bd
  have e0 : s₁.heap = h0 := by rw [← hh, Bd.state]; rfl
  have N0 := Fr.nil n0
  have lts := own_nlt (Vs.lt)
  refine go_of (A := s₁.setTop (entryFrame m #[(.ref s'), (.int (0 : Int32)), (.int (2 : Int32))] 6)) (B := s₁.setTop (mkF m 0 #[.val (.ref s'), .val (.int (0 : Int32)), .val (.int (2 : Int32)), .unset, .unset, .unset] [])) (fun _ kk' => castTop (ef_u_c3_2 m s') kk') ?_
  refine go_of (B := (s₁.setTop (mkF m 1 #[.val (.ref s'), .val (.int (0 : Int32)), .val (.int (2 : Int32)), .unset, .unset, .unset] [(.int (2 : Int32))]))) (fun _ kk => XS.iloadN X0.here hx rfl (hb hby d7_0) rfl kk) ?_
  obtain ⟨T1, h1, k1, X1, e1, E1, A1, st1⟩ := newP X0 hx hZ (wd 20 rfl) e0 (g := (mkF m 1 #[.val (.ref s'), .val (.int (0 : Int32)), .val (.int (2 : Int32)), .unset, .unset, .unset] [(.int (2 : Int32))])) rfl (hb hby d7_1) rfl (by decide) (cap := 2) (by decide) (by decide) (by decide) (by decide)
  obtain ⟨b1, g1⟩ : ∃ z, z = h0.size := ⟨_, rfl⟩
  rw [← g1] at A1 st1
  have hi1 := own_nlt A1.lt
  have sz1 := E1.1
  have V1 : Arv Z h1 b1 k1 .byte (2 : Int32) [(.int (0 : Int32)), (.int (0 : Int32))] (.int (0 : Int32)) := (Arv.new A1 (by decide)).pad (pad_rep [] (.int (0 : Int32)) 2)
  refine go_of (B := (T1.setTop (mkF m 3 #[.val (.ref s'), .val (.int (0 : Int32)), .val (.int (2 : Int32)), .unset, .unset, .unset] [(.ref b1)]))) (st1) ?_
  refine go_of (B := (T1.setTop (mkF m 9 #[.val (.ref s'), .val (.int (0 : Int32)), .val (.int (2 : Int32)), .val (.ref b1), .unset, .unset] [(.int (2 : Int32)), (.int (0 : Int32)), (.ref b1), (.int (0 : Int32)), (.ref s')]))) (fun _ kk => XS.astoreN X1.here hx rfl (hb hby d7_3) rfl rfl rfl (XS.aloadN X1.here hx rfl (hb hby d7_4) rfl rfl (XS.iloadN X1.here hx rfl (hb hby d7_5) rfl (XS.aloadN X1.here hx rfl (hb hby d7_6) rfl rfl (XS.iconst X1.here hx rfl (hb hby d7_7) (XS.iloadN X1.here hx rfl (hb hby d7_8) rfl kk)))))) ?_
  have cf_2 := (Vs.ext E1)
  obtain ⟨_, _, ⟨T3, L3, k3, n3⟩, -, X3, ⟨Lc3, hQ3, l3, y3, z3⟩, st3⟩ := Jvm.LawKit.callS X1 hx (y := MN13) hown (mvT hZ (wd 41 rfl)) (mvT hZ (wd 42 rfl)) (mvT hZ (wd 39 rfl)) (mvT hZ (wd 43 rfl)) (by decide) (backOf (W := 0) (u_c5_2 l Z a0 hw [] s' b1 c0 c1 ks k1 h1 n0 (by first | omega | exact own_ne (by omega) | exact own_le (by omega) | exact own_lt (by omega)) cf_2 V1 (by first | omega | exact own_ne (by omega) | exact own_le (by omega) | exact own_lt (by omega)) (by first | omega | exact own_ne (by omega) | exact own_le (by omega) | exact own_lt (by omega))) hZ (wd 43 rfl) (wd 39 rfl) (by decide) (by decide)) (g := (mkF m 9 #[.val (.ref s'), .val (.int (0 : Int32)), .val (.int (2 : Int32)), .val (.ref b1), .unset, .unset] [(.int (2 : Int32)), (.int (0 : Int32)), (.ref b1), (.int (0 : Int32)), (.ref s')])) rfl (by rw [hml]; rfl) (argsL := [(.ref s'), (.int (0 : Int32)), (.ref b1), (.int (0 : Int32)), (.int (2 : Int32))]) (rest := []) (lenOf pd___CI_BII_I rfl) rfl (by show 2 * 0 + _ ≤ _; exact Nat.le_of_eq rfl) (hb hby d7_9) (fun _ _ => ⟨rfl, e1, (by decide : 1 + 0 ≤ _), (by decide : 2 + 0 ≤ _)⟩)
  dsimp only [Pt.U, Pt.locs, Pt.cells, Pt.slots] at X3 l3 y3 z3 st3 hQ3
  subst l3 y3 z3
  obtain ⟨r3, rfl, N3q, K3, H3⟩ := hQ3
  have N3 := Fr.app N0 N3q
  have sz3 := K3.1
  refine go_of (B := (T3.setTop (mkF m 12 #[.val (.ref s'), .val (.int (0 : Int32)), .val (.int (2 : Int32)), .val (.ref b1), .unset, .unset] [(.int r3)]))) (st3) ?_
  rcases H3 with ⟨rfl, hl0, hl1, V3⟩ | ⟨rfl, hg⟩ | ⟨rfl, hg⟩
  · refine go_of (B := (T3.setTop (mkF m 58 #[.val (.ref s'), .val (.int (0 : Int32)), .val (.int (2 : Int32)), .val (.ref b1), .val (.int (2 : Int32)), .unset] [(.ref b1)]))) (fun _ kk => XS.istore X3.here hx rfl (hb hby d7_12) rfl rfl (XS.iload X3.here hx rfl (hb hby d7_14) rfl (XS.iloadN X3.here hx rfl (hb hby d7_16) rfl (XS.icmpYes X3.here hx rfl (pc0 := 17) (pc' := 57) rfl (hb hby d7_17) rfl (teq (by decide : (2 : Int32) = (2 : Int32))).1 (by decide) (by decide) (XS.aloadN X3.here hx rfl (hb hby d7_57) rfl rfl kk))))) ?_
    refine go_end X3 (v := some (.ref b1)) (fun h => by rw [Bd.returns] at h; cases h) Bd.notSynchronized (by decide) (by decide) (Q := (Q_u_c3_2 Z s' c0 c1 ks h0 n0)) ?_ (fun fs hr => own_retA X3 hx Bd.returns rfl rfl (hb hby d7_58) hr)
    unfold Q_u_c3_2
    exact ⟨b1, k1, rfl, N3, by omega, (((Keep.refl h0 []).ext E1).trans K3 (allS (Or.inr (by first | omega | exact own_ne (by omega) | exact own_le (by omega) | exact own_lt (by omega))) all0)), Or.inl ⟨hl0, hl1, V3⟩⟩
  · refine go_of (B := (T3.setTop (mkF m 22 #[.val (.ref s'), .val (.int (0 : Int32)), .val (.int (2 : Int32)), .val (.ref b1), .val (.int (0 : Int32)), .unset] [(.int (0 : Int32)), (.ref s')]))) (fun _ kk => XS.istore X3.here hx rfl (hb hby d7_12) rfl rfl (XS.iload X3.here hx rfl (hb hby d7_14) rfl (XS.iloadN X3.here hx rfl (hb hby d7_16) rfl (XS.icmpNo X3.here hx rfl (hb hby d7_17) rfl (feq (by decide : ¬ ((0 : Int32) = (2 : Int32)))).1 (XS.aloadN X3.here hx rfl (hb hby d7_20) rfl rfl (XS.iloadN X3.here hx rfl (hb hby d7_21) rfl kk)))))) ?_
    refine go_of (B := (T3.setTop (mkF m 23 #[.val (.ref s'), .val (.int (0 : Int32)), .val (.int (2 : Int32)), .val (.ref b1), .val (.int (0 : Int32)), .unset] [(.int (2 : Int32)), (.int (0 : Int32)), (.ref s')]))) (fun _ kk => XS.iloadN X3.here hx rfl (hb hby d7_22) rfl kk) ?_
    have cf_4 := ((O.ext E1).keep K3 (allS (by first | omega | exact own_ne (by omega) | exact own_le (by omega) | exact own_lt (by omega)) all0))
    have cf_5 := (cf_2.keep K3 (ninS (by first | omega | exact own_ne (by omega) | exact own_le (by omega) | exact own_lt (by omega)) nin0))
    obtain ⟨_, _, ⟨T6, L6, k6, n6⟩, -, X6, ⟨Lc6, hQ6, l6, y6, z6⟩, st6⟩ := Jvm.LawKit.callS X3 hx (y := MN18) hown (mvT hZ (wd 82 rfl)) (mvT hZ (wd 83 rfl)) (mvT hZ (wd 39 rfl)) (mvT hZ (wd 84 rfl)) (by decide) (backOf (W := 0) (u_tob_2 l Z a0 hw [] s' c0 c1 ks T3.heap n0 (by first | omega | exact own_ne (by omega) | exact own_le (by omega) | exact own_lt (by omega)) cf_4 SU cf_5) hZ (wd 84 rfl) (wd 39 rfl) (by decide) (by decide)) (g := (mkF m 23 #[.val (.ref s'), .val (.int (0 : Int32)), .val (.int (2 : Int32)), .val (.ref b1), .val (.int (0 : Int32)), .unset] [(.int (2 : Int32)), (.int (0 : Int32)), (.ref s')])) rfl (by rw [hml]; rfl) (argsL := [(.ref s'), (.int (0 : Int32)), (.int (2 : Int32))]) (rest := []) (lenOf pd___CII__B rfl) rfl (by show 2 * 0 + _ ≤ _; exact Nat.le_of_eq rfl) (hb hby d7_23) (fun _ _ => ⟨rfl, rfl, (by decide : 1 + 1 ≤ _), (by decide : 2 + 4 ≤ _)⟩)
    dsimp only [Pt.U, Pt.locs, Pt.cells, Pt.slots] at X6 l6 y6 z6 st6 hQ6
    subst l6 y6 z6
    obtain ⟨b6, k6, rfl, N6q, lo6, K6, V6⟩ := hQ6
    have lo6 := own_nle lo6
    have N6 := Fr.app N3 N6q
    have hi6 := own_nlt (V6.lt)
    have sz6 := K6.1
    refine go_of (B := (T6.setTop (mkF m 26 #[.val (.ref s'), .val (.int (0 : Int32)), .val (.int (2 : Int32)), .val (.ref b1), .val (.int (0 : Int32)), .unset] [(.ref b6)]))) (st6) ?_
    refine go_of (B := (T6.setTop (mkF m 32 #[.val (.ref s'), .val (.int (0 : Int32)), .val (.int (2 : Int32)), .val (.ref b1), .val (.int (0 : Int32)), .val (.ref b6)] [(.int (0 : Int32)), (.ref b6)]))) (fun _ kk => XS.astore X6.here hx rfl (hb hby d7_26) rfl rfl rfl (XS.aload X6.here hx rfl (hb hby d7_28) rfl rfl (XS.iload X6.here hx rfl (hb hby d7_30) rfl kk))) ?_
    have cf_7 := (cf_4.keep K6 all0)
    obtain ⟨_, _, ⟨T8, L8, k8, n8⟩, -, X8, ⟨Lc8, hQ8, l8, y8, z8⟩, st8⟩ := Jvm.LawKit.callS X6 hx (y := MN14) hown (mvT hZ (wd 98 rfl)) (mvT hZ (wd 99 rfl)) (mvT hZ (wd 39 rfl)) (mvT hZ (wd 100 rfl)) (by decide) (backOf (W := 0) (u_get l Z a0 hw [] b6 (0 : Int32) (4 : Int32) _ c0 k6 T6.heap n0 (by first | omega | exact own_ne (by omega) | exact own_le (by omega) | exact own_lt (by omega)) cf_7 SU V6 (by decide) (by decide) rfl rfl hc0) hZ (wd 100 rfl) (wd 39 rfl) (by decide) (by decide)) (g := (mkF m 32 #[.val (.ref s'), .val (.int (0 : Int32)), .val (.int (2 : Int32)), .val (.ref b1), .val (.int (0 : Int32)), .val (.ref b6)] [(.int (0 : Int32)), (.ref b6)])) rfl (by rw [hml]; rfl) (argsL := [(.ref b6), (.int (0 : Int32))]) (rest := []) (lenOf pd___BI_C rfl) rfl (by show 2 * 0 + _ ≤ _; exact Nat.le_of_eq rfl) (hb hby d7_32) (fun _ _ => ⟨rfl, rfl, (by decide : 2 + 0 ≤ _), (by decide : 6 + 0 ≤ _)⟩)
    dsimp only [Pt.U, Pt.locs, Pt.cells, Pt.slots] at X8 l8 y8 z8 st8 hQ8
    subst l8 y8 z8
    obtain ⟨rfl, N8q, e8⟩ := hQ8
    have N8 := Fr.app N6 N8q
    refine go_of (B := (T8.setTop (mkF m 35 #[.val (.ref s'), .val (.int (0 : Int32)), .val (.int (2 : Int32)), .val (.ref b1), .val (.int (0 : Int32)), .val (.ref b6)] [(.int c0)]))) (st8) ?_
    refine go_of (B := (T8.setTop (mkF m 56 #[.val (.ref s'), .val (.int (0 : Int32)), .val (.int (2 : Int32)), .val (.ref b1), .val (.int (0 : Int32)), .val (.ref b6)] [(.ref b6)]))) (fun _ kk => XS.sipush X8.here hx rfl (hb hby d7_35) (XS.icmpYes X8.here hx rfl (pc0 := 38) (pc' := 54) rfl (hb hby d7_38) rfl (tlt hg).2.2.1 (by decide) (by decide) (XS.aload X8.here hx rfl (hb hby d7_54) rfl rfl kk))) ?_
    refine go_end X8 (v := some (.ref b6)) (fun h => by rw [Bd.returns] at h; cases h) Bd.notSynchronized (by decide) (by decide) (Q := (Q_u_c3_2 Z s' c0 c1 ks h0 n0)) ?_ (fun fs hr => own_retA X8 hx Bd.returns rfl rfl (hb hby d7_56) hr)
    unfold Q_u_c3_2
    try rw [e8]
    exact ⟨b6, k6, rfl, N8, by omega, ((((Keep.refl h0 []).ext E1).trans K3 (allS (Or.inr (by first | omega | exact own_ne (by omega) | exact own_le (by omega) | exact own_lt (by omega))) all0)).trans K6 all0), Or.inr V6⟩
  · refine go_of (B := (T3.setTop (mkF m 22 #[.val (.ref s'), .val (.int (0 : Int32)), .val (.int (2 : Int32)), .val (.ref b1), .val (.int (1 : Int32)), .unset] [(.int (0 : Int32)), (.ref s')]))) (fun _ kk => XS.istore X3.here hx rfl (hb hby d7_12) rfl rfl (XS.iload X3.here hx rfl (hb hby d7_14) rfl (XS.iloadN X3.here hx rfl (hb hby d7_16) rfl (XS.icmpNo X3.here hx rfl (hb hby d7_17) rfl (feq (by decide : ¬ ((1 : Int32) = (2 : Int32)))).1 (XS.aloadN X3.here hx rfl (hb hby d7_20) rfl rfl (XS.iloadN X3.here hx rfl (hb hby d7_21) rfl kk)))))) ?_
    refine go_of (B := (T3.setTop (mkF m 23 #[.val (.ref s'), .val (.int (0 : Int32)), .val (.int (2 : Int32)), .val (.ref b1), .val (.int (1 : Int32)), .unset] [(.int (2 : Int32)), (.int (0 : Int32)), (.ref s')]))) (fun _ kk => XS.iloadN X3.here hx rfl (hb hby d7_22) rfl kk) ?_
    have cf_9 := ((O.ext E1).keep K3 (allS (by first | omega | exact own_ne (by omega) | exact own_le (by omega) | exact own_lt (by omega)) all0))
    have cf_10 := (cf_2.keep K3 (ninS (by first | omega | exact own_ne (by omega) | exact own_le (by omega) | exact own_lt (by omega)) nin0))
    obtain ⟨_, _, ⟨T11, L11, k11, n11⟩, -, X11, ⟨Lc11, hQ11, l11, y11, z11⟩, st11⟩ := Jvm.LawKit.callS X3 hx (y := MN18) hown (mvT hZ (wd 82 rfl)) (mvT hZ (wd 83 rfl)) (mvT hZ (wd 39 rfl)) (mvT hZ (wd 84 rfl)) (by decide) (backOf (W := 0) (u_tob_2 l Z a0 hw [] s' c0 c1 ks T3.heap n0 (by first | omega | exact own_ne (by omega) | exact own_le (by omega) | exact own_lt (by omega)) cf_9 SU cf_10) hZ (wd 84 rfl) (wd 39 rfl) (by decide) (by decide)) (g := (mkF m 23 #[.val (.ref s'), .val (.int (0 : Int32)), .val (.int (2 : Int32)), .val (.ref b1), .val (.int (1 : Int32)), .unset] [(.int (2 : Int32)), (.int (0 : Int32)), (.ref s')])) rfl (by rw [hml]; rfl) (argsL := [(.ref s'), (.int (0 : Int32)), (.int (2 : Int32))]) (rest := []) (lenOf pd___CII__B rfl) rfl (by show 2 * 0 + _ ≤ _; exact Nat.le_of_eq rfl) (hb hby d7_23) (fun _ _ => ⟨rfl, rfl, (by decide : 1 + 1 ≤ _), (by decide : 2 + 4 ≤ _)⟩)
    dsimp only [Pt.U, Pt.locs, Pt.cells, Pt.slots] at X11 l11 y11 z11 st11 hQ11
    subst l11 y11 z11
    obtain ⟨b11, k11, rfl, N11q, lo11, K11, V11⟩ := hQ11
    have lo11 := own_nle lo11
    have N11 := Fr.app N3 N11q
    have hi11 := own_nlt (V11.lt)
    have sz11 := K11.1
    refine go_of (B := (T11.setTop (mkF m 26 #[.val (.ref s'), .val (.int (0 : Int32)), .val (.int (2 : Int32)), .val (.ref b1), .val (.int (1 : Int32)), .unset] [(.ref b11)]))) (st11) ?_
    refine go_of (B := (T11.setTop (mkF m 32 #[.val (.ref s'), .val (.int (0 : Int32)), .val (.int (2 : Int32)), .val (.ref b1), .val (.int (1 : Int32)), .val (.ref b11)] [(.int (1 : Int32)), (.ref b11)]))) (fun _ kk => XS.astore X11.here hx rfl (hb hby d7_26) rfl rfl rfl (XS.aload X11.here hx rfl (hb hby d7_28) rfl rfl (XS.iload X11.here hx rfl (hb hby d7_30) rfl kk))) ?_
    have cf_12 := (cf_9.keep K11 all0)
    obtain ⟨_, _, ⟨T13, L13, k13, n13⟩, -, X13, ⟨Lc13, hQ13, l13, y13, z13⟩, st13⟩ := Jvm.LawKit.callS X11 hx (y := MN14) hown (mvT hZ (wd 98 rfl)) (mvT hZ (wd 99 rfl)) (mvT hZ (wd 39 rfl)) (mvT hZ (wd 100 rfl)) (by decide) (backOf (W := 0) (u_get l Z a0 hw [] b11 (1 : Int32) (4 : Int32) _ c1 k11 T11.heap n0 (by first | omega | exact own_ne (by omega) | exact own_le (by omega) | exact own_lt (by omega)) cf_12 SU V11 (by decide) (by decide) rfl rfl hc1) hZ (wd 100 rfl) (wd 39 rfl) (by decide) (by decide)) (g := (mkF m 32 #[.val (.ref s'), .val (.int (0 : Int32)), .val (.int (2 : Int32)), .val (.ref b1), .val (.int (1 : Int32)), .val (.ref b11)] [(.int (1 : Int32)), (.ref b11)])) rfl (by rw [hml]; rfl) (argsL := [(.ref b11), (.int (1 : Int32))]) (rest := []) (lenOf pd___BI_C rfl) rfl (by show 2 * 0 + _ ≤ _; exact Nat.le_of_eq rfl) (hb hby d7_32) (fun _ _ => ⟨rfl, rfl, (by decide : 2 + 0 ≤ _), (by decide : 6 + 0 ≤ _)⟩)
    dsimp only [Pt.U, Pt.locs, Pt.cells, Pt.slots] at X13 l13 y13 z13 st13 hQ13
    subst l13 y13 z13
    obtain ⟨rfl, N13q, e13⟩ := hQ13
    have N13 := Fr.app N11 N13q
    refine go_of (B := (T13.setTop (mkF m 35 #[.val (.ref s'), .val (.int (0 : Int32)), .val (.int (2 : Int32)), .val (.ref b1), .val (.int (1 : Int32)), .val (.ref b11)] [(.int c1)]))) (st13) ?_
    refine go_of (B := (T13.setTop (mkF m 56 #[.val (.ref s'), .val (.int (0 : Int32)), .val (.int (2 : Int32)), .val (.ref b1), .val (.int (1 : Int32)), .val (.ref b11)] [(.ref b11)]))) (fun _ kk => XS.sipush X13.here hx rfl (hb hby d7_35) (XS.icmpYes X13.here hx rfl (pc0 := 38) (pc' := 54) rfl (hb hby d7_38) rfl (tlt hg).2.2.1 (by decide) (by decide) (XS.aload X13.here hx rfl (hb hby d7_54) rfl rfl kk))) ?_
    refine go_end X13 (v := some (.ref b11)) (fun h => by rw [Bd.returns] at h; cases h) Bd.notSynchronized (by decide) (by decide) (Q := (Q_u_c3_2 Z s' c0 c1 ks h0 n0)) ?_ (fun fs hr => own_retA X13 hx Bd.returns rfl rfl (hb hby d7_56) hr)
    unfold Q_u_c3_2
    try rw [e13]
    exact ⟨b11, k11, rfl, N13, by omega, ((((Keep.refl h0 []).ext E1).trans K3 (allS (Or.inr (by first | omega | exact own_ne (by omega) | exact own_le (by omega) | exact own_lt (by omega))) all0)).trans K11 all0), Or.inr V11⟩
def Q_str_cf_2 (Z : State) (t : Addr) (k : ClassId) (vs : List Value) (h0 : Heap) (n0 : Nat) (v : Option Value) (h : Heap) (L : List Loc) : Prop := v = some (.int 0) ∧ Fr n0 L ∧ h = h0
theorem ef_str_cf_2 (m : MethodId) (t : Addr)  : entryFrame m #[(.ref t), (.int (2 : Int32))] 2 = mkF m 0 #[.val (.ref t), .val (.int (2 : Int32))] [] := by first | (simp [entryFrame, mkF, argsToLocals, Value.category]; done) | rfl
theorem str_cf_2 (l : Launch) (Z : State) (a0 : Array Value) (hw : TW a0 Z) (ws : List Jvm.Cond) (t : Addr) (k : ClassId) (vs : List Value) (h0 : Heap) (n0 : Nat) (Z0 : n0 ≤ h0.size) (V : Arv Z h0 t k .byte 2 vs (.int 0)) :
    own_MF l Z MN11 jdk_52_method_15_code 2 (some .byte) ws (own_R 0 0 0 0) #[(.ref t), (.int (2 : Int32))] h0 (Q_str_cf_2 Z t k vs h0 n0) := by
  have wd := @own_wd _ _ hw
  refine MetFree.of_bodySF (plainFor_of_name pn_java_lang_StringUTF16) hisR ?_
  intro p e s m args below meth c s₁ Bd hml0 hP hK
  obtain ⟨rfl, hZ, hh⟩ := hP
  have hx := Bd.exec
  have hby := Bd.bytes
  have hml : c.maxLocals = 2 := hml0
  have hown : s.vm.findClass "java/lang/StringUTF16" = some m.cls := findClass_of_methodNamed Bd.named
  have hnm := (name_of_methodNamed Bd.named Bd.method).1
  have X0 : Stand p l e (own_R 0 0 0 0) s m #[(.ref t), (.int (2 : Int32))] below meth c s₁ [] 0 0 := Stand.of_body Bd
  have e0 : s₁.heap = h0 := by rw [← hh, Bd.state]; rfl
  have N0 := Fr.nil n0
  refine go_of (A := s₁.setTop (entryFrame m #[(.ref t), (.int (2 : Int32))] 2)) (B := s₁.setTop (mkF m 0 #[.val (.ref t), .val (.int (2 : Int32))] [])) (fun _ kk' => castTop (ef_str_cf_2 m t) kk') ?_
  refine go_of (B := (s₁.setTop (mkF m 2 #[.val (.ref t), .val (.int (2 : Int32))] [(.ref t), (.int (2 : Int32))]))) (fun _ kk => XS.iloadN X0.here hx rfl (hb hby d9_0) rfl (XS.aloadN X0.here hx rfl (hb hby d9_1) rfl rfl kk)) ?_
  obtain ⟨cl1, Ar1, q1, Sz1, Nn1, Hh1, G1⟩ := id (V)
  have ln1 := len_of Sz1 Nn1
  refine go_of (B := (s₁.setTop (mkF m 3 #[.val (.ref t), .val (.int (2 : Int32))] [(.int (2 : Int32)), (.int (2 : Int32))]))) (fun _ kk => X0.arraylength hx (by rw [e0]; exact Ar1.1) (State.isArrayOf_alike hZ.alike Ar1.2.1) (g := (mkF m 2 #[.val (.ref t), .val (.int (2 : Int32))] [(.ref t), (.int (2 : Int32))])) rfl rfl (hb hby d9_2) _ (by rw [ln1]; exact kk)) ?_
  refine go_of (B := (s₁.setTop (mkF m 8 #[.val (.ref t), .val (.int (2 : Int32))] [(.int (0 : Int32))]))) (fun _ kk => XS.isub X0.here hx rfl (hb hby d9_3) rfl (XS.bipush X0.here hx rfl (hb hby d9_4) (XS.iushr X0.here hx rfl (hb hby d9_6) rfl (XS.i2b X0.here hx rfl (hb hby d9_7) rfl kk)))) ?_
  refine go_end X0 (v := some (.int (nar .byte (0 : Int32)))) (fun h => by rw [Bd.returns] at h; cases h) Bd.notSynchronized (by decide) (by decide) (Q := (Q_str_cf_2 Z t k vs h0 n0)) ?_ (fun fs hr => retN X0 hx (t := .byte) Bd.returns (by simp) (hb hby d9_8) hr)
  unfold Q_str_cf_2
  try rw [e0]
  exact ⟨rfl, N0, rfl⟩
def Q_u_cf_2 (Z : State) (t : Addr) (k : ClassId) (vs : List Value) (h0 : Heap) (n0 : Nat) (v : Option Value) (h : Heap) (L : List Loc) : Prop := v = some (.int 1) ∧ Fr n0 L ∧ h = h0
theorem ef_u_cf_2 (m : MethodId) (t : Addr)  : entryFrame m #[(.ref t), (.int (2 : Int32))] 2 = mkF m 0 #[.val (.ref t), .val (.int (2 : Int32))] [] := by first | (simp [entryFrame, mkF, argsToLocals, Value.category]; done) | rfl
theorem u_cf_2 (l : Launch) (Z : State) (a0 : Array Value) (hw : TW a0 Z) (ws : List Jvm.Cond) (t : Addr) (k : ClassId) (vs : List Value) (h0 : Heap) (n0 : Nat) (Z0 : n0 ≤ h0.size) (V : Arv Z h0 t k .byte 4 vs (.int 0)) :
    own_MF l Z MN11 jdk_52_method_15_code 2 (some .byte) ws (own_R 0 0 0 0) #[(.ref t), (.int (2 : Int32))] h0 (Q_u_cf_2 Z t k vs h0 n0) := by
  have wd := @own_wd _ _ hw
  refine MetFree.of_bodySF (plainFor_of_name pn_java_lang_StringUTF16) hisR ?_
  intro p e s m args below meth c s₁ Bd hml0 hP hK
  obtain ⟨rfl, hZ, hh⟩ := hP
  have hx := Bd.exec
  have hby := Bd.bytes
  have hml : c.maxLocals = 2 := hml0
  have hown : s.vm.findClass "java/lang/StringUTF16" = some m.cls := findClass_of_methodNamed Bd.named
  have hnm := (name_of_methodNamed Bd.named Bd.method).1
  have X0 : Stand p l e (own_R 0 0 0 0) s m #[(.ref t), (.int (2 : Int32))] below meth c s₁ [] 0 0 := Stand.of_body Bd
  have e0 : s₁.heap = h0 := by rw [← hh, Bd.state]; rfl
  have N0 := Fr.nil n0
  refine go_of (A := s₁.setTop (entryFrame m #[(.ref t), (.int (2 : Int32))] 2)) (B := s₁.setTop (mkF m 0 #[.val (.ref t), .val (.int (2 : Int32))] [])) (fun _ kk' => castTop (ef_u_cf_2 m t) kk') ?_
  refine go_of (B := (s₁.setTop (mkF m 2 #[.val (.ref t), .val (.int (2 : Int32))] [(.ref t), (.int (2 : Int32))]))) (fun _ kk => XS.iloadN X0.here hx rfl (hb hby d9_0) rfl (XS.aloadN X0.here hx rfl (hb hby d9_1) rfl rfl kk)) ?_
  obtain ⟨cl1, Ar1, q1, Sz1, Nn1, Hh1, G1⟩ := id (V)
  have ln1 := len_of Sz1 Nn1
  refine go_of (B := (s₁.setTop (mkF m 3 #[.val (.ref t), .val (.int (2 : Int32))] [(.int (4 : Int32)), (.int (2 : Int32))]))) (fun _ kk => X0.arraylength hx (by rw [e0]; exact Ar1.1) (State.isArrayOf_alike hZ.alike Ar1.2.1) (g := (mkF m 2 #[.val (.ref t), .val (.int (2 : Int32))] [(.ref t), (.int (2 : Int32))])) rfl rfl (hb hby d9_2) _ (by rw [ln1]; exact kk)) ?_
  refine go_of (B := (s₁.setTop (mkF m 8 #[.val (.ref t), .val (.int (2 : Int32))] [(.int (1 : Int32))]))) (fun _ kk => XS.isub X0.here hx rfl (hb hby d9_3) rfl (XS.bipush X0.here hx rfl (hb hby d9_4) (XS.iushr X0.here hx rfl (hb hby d9_6) rfl (XS.i2b X0.here hx rfl (hb hby d9_7) rfl kk)))) ?_
  refine go_end X0 (v := some (.int (nar .byte (1 : Int32)))) (fun h => by rw [Bd.returns] at h; cases h) Bd.notSynchronized (by decide) (by decide) (Q := (Q_u_cf_2 Z t k vs h0 n0)) ?_ (fun fs hr => retN X0 hx (t := .byte) Bd.returns (by simp) (hb hby d9_8) hr)
  unfold Q_u_cf_2
  try rw [e0]
  exact ⟨rfl, N0, rfl⟩
def Q_u_i4_2 (Z : State) (a : Addr) (s' : Addr) (c0 : Int32) (c1 : Int32) (ks : ClassId) (gC : Int32) (u : Value) (u2 : Value) (h0 : Heap) (n0 : Nat) (v : Option Value) (h : Heap) (L : List Loc) : Prop := v = none ∧ Fr n0 L ∧ Keep h0 h [a] ∧ StrU Z h a 2 4 [c0, c1]
theorem ef_u_i4_2 (m : MethodId) (a : Addr) (s' : Addr)  : entryFrame m #[(.ref a), (.ref s'), (.int (0 : Int32)), (.int (2 : Int32)), .null] 6 = mkF m 0 #[.val (.ref a), .val (.ref s'), .val (.int (0 : Int32)), .val (.int (2 : Int32)), .val .null, .unset] [] := by first | (simp [entryFrame, mkF, argsToLocals, Value.category]; done) | rfl
theorem u_i4_2 (l : Launch) (Z : State) (a0 : Array Value) (hw : TW a0 Z) (ws : List Jvm.Cond) (a : Addr) (s' : Addr) (c0 : Int32) (c1 : Int32) (ks : ClassId) (gC : Int32) (u : Value) (u2 : Value) (h0 : Heap) (n0 : Nat) (Z0 : n0 ≤ h0.size) (O : Old Z n0 h0) (SC : Sta Z Z.heap "java/lang/String" "COMPACT_STRINGS" "Z" (.int gC)) (hgC : ¬ gC = (0 : Int32)) (SU : US Z) (E : Exa Z h0 a "java/lang/String") (F : Fld Z h0 a "java/lang/String" "value" "[B" u) (F2 : Fld Z h0 a "java/lang/String" "coder" "B" u2) (g : n0 ≤ a) (Vs : Arv Z h0 s' ks .char 2 [(.int c0), (.int c1)] (.int 0)) (hc0 : ¬ c0 < 0 ∧ ¬ (65535 : Int32) < c0) (hc1 : ¬ c1 < 0 ∧ ¬ (65535 : Int32) < c1) :
    own_MF l Z MN4 jdk_42_method_149_code 6 none ws (own_R 4 2 6 57) #[(.ref a), (.ref s'), (.int (0 : Int32)), (.int (2 : Int32)), .null] h0 (Q_u_i4_2 Z a s' c0 c1 ks gC u u2 h0 n0) := by
  have wd := @own_wd _ _ hw
  refine MetFree.of_bodySF (plainFor_of_name pn_java_lang_String) hisR ?_
  intro p e s m args below meth c s₁ Bd hml0 hP hK
  obtain ⟨rfl, hZ, hh⟩ := hP
  have hx := Bd.exec
  have hby := Bd.bytes
  have hml : c.maxLocals = 6 := hml0
  have hown : s.vm.findClass "java/lang/String" = some m.cls := findClass_of_methodNamed Bd.named
  have hnm := (name_of_methodNamed Bd.named Bd.method).1
  have X0 : Stand p l e (own_R 4 2 6 57) s m #[(.ref a), (.ref s'), (.int (0 : Int32)), (.int (2 : Int32)), .null] below meth c s₁ [] 0 0 := Stand.of_body Bd
  have e0 : s₁.heap = h0 := by rw [← hh, Bd.state]; rfl
  have N0 := Fr.nil n0
  have lta := own_nlt (E.lt)
  have lts := own_nlt (Vs.lt)
  refine go_of (A := s₁.setTop (entryFrame m #[(.ref a), (.ref s'), (.int (0 : Int32)), (.int (2 : Int32)), .null] 6)) (B := s₁.setTop (mkF m 0 #[.val (.ref a), .val (.ref s'), .val (.int (0 : Int32)), .val (.int (2 : Int32)), .val .null, .unset] [])) (fun _ kk' => castTop (ef_u_i4_2 m a s') kk') ?_
  refine go_of (B := (s₁.setTop (mkF m 1 #[.val (.ref a), .val (.ref s'), .val (.int (0 : Int32)), .val (.int (2 : Int32)), .val .null, .unset] [(.ref a)]))) (fun _ kk => XS.aloadN X0.here hx rfl (hb hby d3_0) rfl rfl kk) ?_
  obtain ⟨T1, X1, e1, st1⟩ := initO X0 hx hZ hown (wd 16 rfl) (wd 17 rfl) (wd 18 rfl) e0 (g := (mkF m 1 #[.val (.ref a), .val (.ref s'), .val (.int (0 : Int32)), .val (.int (2 : Int32)), .val .null, .unset] [(.ref a)])) rfl (by rw [hml]; rfl) rfl (hb hby d3_1) (by decide) (W := 0) (by show 2 * 0 + _ ≤ _; exact Nat.le_of_eq rfl) (by decide)
  refine go_of (B := (T1.setTop (mkF m 4 #[.val (.ref a), .val (.ref s'), .val (.int (0 : Int32)), .val (.int (2 : Int32)), .val .null, .unset] []))) (st1) ?_
  refine go_of (B := (T1.setTop (mkF m 27 #[.val (.ref a), .val (.ref s'), .val (.int (0 : Int32)), .val (.int (2 : Int32)), .val .null, .unset] []))) (fun _ kk => XS.iloadN X1.here hx rfl (hb hby d3_4) rfl (XS.ifYes X1.here hx rfl (pc0 := 5) (pc' := 27) rfl (hb hby d3_5) rfl ((if0 _ _).trans (feq (by decide : ¬ ((2 : Int32) = (0 : Int32)))).2) (by decide) (by decide) kk)) ?_
  obtain ⟨T2, X2, e2, st2⟩ := getS2 X1 hx hZ hown (host := "") (Or.inl (wd 36 rfl)) Via.refl e1 (SC.ext O.2) (g := (mkF m 27 #[.val (.ref a), .val (.ref s'), .val (.int (0 : Int32)), .val (.int (2 : Int32)), .val .null, .unset] [])) rfl (hb hby d3_27)
  refine go_of (B := (T2.setTop (mkF m 30 #[.val (.ref a), .val (.ref s'), .val (.int (0 : Int32)), .val (.int (2 : Int32)), .val .null, .unset] [(.int gC)]))) (st2) ?_
  refine go_of (B := (T2.setTop (mkF m 36 #[.val (.ref a), .val (.ref s'), .val (.int (0 : Int32)), .val (.int (2 : Int32)), .val .null, .unset] [(.int (2 : Int32)), (.int (0 : Int32)), (.ref s')]))) (fun _ kk => XS.ifNo X2.here hx rfl (hb hby d3_30) rfl ((if0 _ _).trans (feq hgC).1) (XS.aloadN X2.here hx rfl (hb hby d3_33) rfl rfl (XS.iloadN X2.here hx rfl (hb hby d3_34) rfl (XS.iloadN X2.here hx rfl (hb hby d3_35) rfl kk)))) ?_
  obtain ⟨_, _, ⟨T3, L3, k3, n3⟩, -, X3, ⟨Lc3, hQ3, l3, y3, z3⟩, st3⟩ := Jvm.LawKit.callS X2 hx (y := MN12) hown (mvT hZ (wd 37 rfl)) (mvT hZ (wd 38 rfl)) (mvT hZ (wd 39 rfl)) (mvT hZ (wd 40 rfl)) (by decide) (backOf (W := 0) (u_c3_2 l Z a0 hw [] s' c0 c1 ks h0 n0 (by first | omega | exact own_ne (by omega) | exact own_le (by omega) | exact own_lt (by omega)) O SU Vs hc0 hc1) hZ (wd 40 rfl) (wd 39 rfl) (by decide) (by decide)) (g := (mkF m 36 #[.val (.ref a), .val (.ref s'), .val (.int (0 : Int32)), .val (.int (2 : Int32)), .val .null, .unset] [(.int (2 : Int32)), (.int (0 : Int32)), (.ref s')])) rfl (by rw [hml]; rfl) (argsL := [(.ref s'), (.int (0 : Int32)), (.int (2 : Int32))]) (rest := []) (lenOf pd___CII__B rfl) rfl (by show 2 * 0 + _ ≤ _; exact Nat.le_of_eq rfl) (hb hby d3_36) (fun _ _ => ⟨rfl, e2, (by decide : 0 + 2 ≤ _), (by decide : 0 + 6 ≤ _)⟩)
  dsimp only [Pt.U, Pt.locs, Pt.cells, Pt.slots] at X3 l3 y3 z3 st3 hQ3
  subst l3 y3 z3
  obtain ⟨b3, k3, rfl, N3q, lo3, K3, H3⟩ := hQ3
  have lo3 := own_nle lo3
  have N3 := Fr.app N0 N3q
  have sz3 := K3.1
  refine go_of (B := (T3.setTop (mkF m 39 #[.val (.ref a), .val (.ref s'), .val (.int (0 : Int32)), .val (.int (2 : Int32)), .val .null, .unset] [(.ref b3)]))) (st3) ?_
  rcases H3 with ⟨hl0, hl1, V3⟩ | V3
  · have hi3 := own_nlt (V3.lt)
    refine go_of (B := (T3.setTop (mkF m 45 #[.val (.ref a), .val (.ref s'), .val (.int (0 : Int32)), .val (.int (2 : Int32)), .val .null, .val (.ref b3)] [(.int (2 : Int32)), (.ref b3), (.ref a)]))) (fun _ kk => XS.astore X3.here hx rfl (hb hby d3_39) rfl rfl rfl (XS.aloadN X3.here hx rfl (hb hby d3_41) rfl rfl (XS.aload X3.here hx rfl (hb hby d3_42) rfl rfl (XS.iloadN X3.here hx rfl (hb hby d3_44) rfl kk)))) ?_
    obtain ⟨_, _, ⟨T4, L4, k4, n4⟩, -, X4, ⟨Lc4, hQ4, l4, y4, z4⟩, st4⟩ := Jvm.LawKit.callS X3 hx (y := MN11) hown (mvT hZ (wd 44 rfl)) (mvT hZ (wd 45 rfl)) (mvT hZ (wd 39 rfl)) (mvT hZ (wd 46 rfl)) (by decide) (backOf (W := 1) (str_cf_2 l Z a0 hw [] b3 k3 _ T3.heap n0 (by first | omega | exact own_ne (by omega) | exact own_le (by omega) | exact own_lt (by omega)) V3) hZ (wd 46 rfl) (wd 39 rfl) (by decide) (by decide)) (g := (mkF m 45 #[.val (.ref a), .val (.ref s'), .val (.int (0 : Int32)), .val (.int (2 : Int32)), .val .null, .val (.ref b3)] [(.int (2 : Int32)), (.ref b3), (.ref a)])) rfl (by rw [hml]; rfl) (argsL := [(.ref b3), (.int (2 : Int32))]) (rest := [(.ref a)]) (lenOf pd___BI_B rfl) rfl (by show 2 * 0 + _ ≤ _; exact Nat.le_of_eq rfl) (hb hby d3_45) (fun _ _ => ⟨rfl, rfl, (by decide : 2 + 0 ≤ _), (by decide : 6 + 0 ≤ _)⟩)
    dsimp only [Pt.U, Pt.locs, Pt.cells, Pt.slots] at X4 l4 y4 z4 st4 hQ4
    subst l4 y4 z4
    obtain ⟨rfl, N4q, e4⟩ := hQ4
    have N4 := Fr.app N3 N4q
    refine go_of (B := (T4.setTop (mkF m 48 #[.val (.ref a), .val (.ref s'), .val (.int (0 : Int32)), .val (.int (2 : Int32)), .val .null, .val (.ref b3)] [(.int (0 : Int32)), (.ref a)]))) (st4) ?_
    have cf_5 := (E.keep K3)
    have cf_6 := (F2.keep K3 nin0)
    obtain ⟨T7, h7, X7, e7, W7, st7⟩ := putFN X4 hx hZ hown (wd 26 rfl) Via.refl e4 cf_6 cf_5 (Or.inr ⟨(wd 22 rfl), rfl, hnm⟩) (wd 2 rfl) (ty := .byte) (v' := (.int (nar .byte (0 : Int32)))) (by decide) rfl (fits_nar_byte _) (g := (mkF m 48 #[.val (.ref a), .val (.ref s'), .val (.int (0 : Int32)), .val (.int (2 : Int32)), .val .null, .val (.ref b3)] [(.int (0 : Int32)), (.ref a)])) rfl rfl (hb hby d3_48)
    have sz7 := W7.size
    have Fw7 := cf_6.same W7
    have N7 := Fr.snoc X7 N4 (g : n0 ≤ a)
    refine go_of (B := (T7.setTop (mkF m 51 #[.val (.ref a), .val (.ref s'), .val (.int (0 : Int32)), .val (.int (2 : Int32)), .val .null, .val (.ref b3)] []))) (st7) ?_
    refine go_of (B := (T7.setTop (mkF m 54 #[.val (.ref a), .val (.ref s'), .val (.int (0 : Int32)), .val (.int (2 : Int32)), .val .null, .val (.ref b3)] [(.ref b3), (.ref a)]))) (fun _ kk => XS.aloadN X7.here hx rfl (hb hby d3_51) rfl rfl (XS.aload X7.here hx rfl (hb hby d3_52) rfl rfl kk)) ?_
    have cf_8 := (cf_5.wr W7)
    have cf_9 := ((F.keep K3 nin0).other W7 (Or.inr (slot_ne (Or.inr (wd 21 rfl)) (Or.inr (wd 22 rfl)) (by decide) (t := (.array .byte)) (t' := .byte) (by decide) (by decide))))
    obtain ⟨T10, h10, X10, e10, W10, st10⟩ := putF X7 hx hZ hown (host := "") (Or.inl (wd 25 rfl)) Via.refl e7 cf_9 cf_8 (Or.inr ⟨(wd 21 rfl), rfl, hnm⟩) (wd 2 rfl) (ty := (.array .byte)) (by decide) rfl rfl (g := (mkF m 54 #[.val (.ref a), .val (.ref s'), .val (.int (0 : Int32)), .val (.int (2 : Int32)), .val .null, .val (.ref b3)] [(.ref b3), (.ref a)])) rfl rfl (hb hby d3_54)
    have sz10 := W10.size
    have Fw10 := cf_9.same W10
    have N10 := Fr.snoc X10 N7 (g : n0 ≤ a)
    refine go_of (B := (T10.setTop (mkF m 57 #[.val (.ref a), .val (.ref s'), .val (.int (0 : Int32)), .val (.int (2 : Int32)), .val .null, .val (.ref b3)] []))) (st10) ?_
    have cf_11 := ((V3.other W7 (by first | omega | exact own_ne (by omega) | exact own_le (by omega) | exact own_lt (by omega))).other W10 (by first | omega | exact own_ne (by omega) | exact own_le (by omega) | exact own_lt (by omega)))
    have cf_12 := (Fw7.other W10 (Or.inr (slot_ne (Or.inr (wd 22 rfl)) (Or.inr (wd 21 rfl)) (by decide) (t := .byte) (t' := (.array .byte)) (by decide) (by decide))))
    have cf_13 := (cf_8.wr W10)
    refine go_end X10 (v := none) (fun _ => rfl) Bd.notSynchronized (by decide) (by decide) (Q := (Q_u_i4_2 Z a s' c0 c1 ks gC u u2 h0 n0)) ?_ (fun fs hr => X10.returnOut hx Bd.returns (hb hby d3_57) hr)
    unfold Q_u_i4_2
    try rw [e10]
    exact ⟨rfl, N10, ((((Keep.refl h0 [a]).trans K3 all0).wr W7 (Or.inl (List.mem_of_getElem? (i := 0) rfl))).wr W10 (Or.inl (List.mem_of_getElem? (i := 0) rfl))), Or.inl ⟨b3, k3, cf_13, cf_12, Fw10, cf_11, (own_allc ⟨hc0.1, hl0⟩ (own_allc ⟨hc1.1, hl1⟩ (fun _ q => nomatch q)))⟩⟩
  · have hi3 := own_nlt (V3.lt)
    refine go_of (B := (T3.setTop (mkF m 45 #[.val (.ref a), .val (.ref s'), .val (.int (0 : Int32)), .val (.int (2 : Int32)), .val .null, .val (.ref b3)] [(.int (2 : Int32)), (.ref b3), (.ref a)]))) (fun _ kk => XS.astore X3.here hx rfl (hb hby d3_39) rfl rfl rfl (XS.aloadN X3.here hx rfl (hb hby d3_41) rfl rfl (XS.aload X3.here hx rfl (hb hby d3_42) rfl rfl (XS.iloadN X3.here hx rfl (hb hby d3_44) rfl kk)))) ?_
    obtain ⟨_, _, ⟨T14, L14, k14, n14⟩, -, X14, ⟨Lc14, hQ14, l14, y14, z14⟩, st14⟩ := Jvm.LawKit.callS X3 hx (y := MN11) hown (mvT hZ (wd 44 rfl)) (mvT hZ (wd 45 rfl)) (mvT hZ (wd 39 rfl)) (mvT hZ (wd 46 rfl)) (by decide) (backOf (W := 1) (u_cf_2 l Z a0 hw [] b3 k3 _ T3.heap n0 (by first | omega | exact own_ne (by omega) | exact own_le (by omega) | exact own_lt (by omega)) V3) hZ (wd 46 rfl) (wd 39 rfl) (by decide) (by decide)) (g := (mkF m 45 #[.val (.ref a), .val (.ref s'), .val (.int (0 : Int32)), .val (.int (2 : Int32)), .val .null, .val (.ref b3)] [(.int (2 : Int32)), (.ref b3), (.ref a)])) rfl (by rw [hml]; rfl) (argsL := [(.ref b3), (.int (2 : Int32))]) (rest := [(.ref a)]) (lenOf pd___BI_B rfl) rfl (by show 2 * 0 + _ ≤ _; exact Nat.le_of_eq rfl) (hb hby d3_45) (fun _ _ => ⟨rfl, rfl, (by decide : 2 + 0 ≤ _), (by decide : 6 + 0 ≤ _)⟩)
    dsimp only [Pt.U, Pt.locs, Pt.cells, Pt.slots] at X14 l14 y14 z14 st14 hQ14
    subst l14 y14 z14
    obtain ⟨rfl, N14q, e14⟩ := hQ14
    have N14 := Fr.app N3 N14q
    refine go_of (B := (T14.setTop (mkF m 48 #[.val (.ref a), .val (.ref s'), .val (.int (0 : Int32)), .val (.int (2 : Int32)), .val .null, .val (.ref b3)] [(.int (1 : Int32)), (.ref a)]))) (st14) ?_
    have cf_15 := (E.keep K3)
    have cf_16 := (F2.keep K3 nin0)
    obtain ⟨T17, h17, X17, e17, W17, st17⟩ := putFN X14 hx hZ hown (wd 26 rfl) Via.refl e14 cf_16 cf_15 (Or.inr ⟨(wd 22 rfl), rfl, hnm⟩) (wd 2 rfl) (ty := .byte) (v' := (.int (nar .byte (1 : Int32)))) (by decide) rfl (fits_nar_byte _) (g := (mkF m 48 #[.val (.ref a), .val (.ref s'), .val (.int (0 : Int32)), .val (.int (2 : Int32)), .val .null, .val (.ref b3)] [(.int (1 : Int32)), (.ref a)])) rfl rfl (hb hby d3_48)
    have sz17 := W17.size
    have Fw17 := cf_16.same W17
    have N17 := Fr.snoc X17 N14 (g : n0 ≤ a)
    refine go_of (B := (T17.setTop (mkF m 51 #[.val (.ref a), .val (.ref s'), .val (.int (0 : Int32)), .val (.int (2 : Int32)), .val .null, .val (.ref b3)] []))) (st17) ?_
    refine go_of (B := (T17.setTop (mkF m 54 #[.val (.ref a), .val (.ref s'), .val (.int (0 : Int32)), .val (.int (2 : Int32)), .val .null, .val (.ref b3)] [(.ref b3), (.ref a)]))) (fun _ kk => XS.aloadN X17.here hx rfl (hb hby d3_51) rfl rfl (XS.aload X17.here hx rfl (hb hby d3_52) rfl rfl kk)) ?_
    have cf_18 := (cf_15.wr W17)
    have cf_19 := ((F.keep K3 nin0).other W17 (Or.inr (slot_ne (Or.inr (wd 21 rfl)) (Or.inr (wd 22 rfl)) (by decide) (t := (.array .byte)) (t' := .byte) (by decide) (by decide))))
    obtain ⟨T20, h20, X20, e20, W20, st20⟩ := putF X17 hx hZ hown (host := "") (Or.inl (wd 25 rfl)) Via.refl e17 cf_19 cf_18 (Or.inr ⟨(wd 21 rfl), rfl, hnm⟩) (wd 2 rfl) (ty := (.array .byte)) (by decide) rfl rfl (g := (mkF m 54 #[.val (.ref a), .val (.ref s'), .val (.int (0 : Int32)), .val (.int (2 : Int32)), .val .null, .val (.ref b3)] [(.ref b3), (.ref a)])) rfl rfl (hb hby d3_54)
    have sz20 := W20.size
    have Fw20 := cf_19.same W20
    have N20 := Fr.snoc X20 N17 (g : n0 ≤ a)
    refine go_of (B := (T20.setTop (mkF m 57 #[.val (.ref a), .val (.ref s'), .val (.int (0 : Int32)), .val (.int (2 : Int32)), .val .null, .val (.ref b3)] []))) (st20) ?_
    have cf_21 := ((V3.other W17 (by first | omega | exact own_ne (by omega) | exact own_le (by omega) | exact own_lt (by omega))).other W20 (by first | omega | exact own_ne (by omega) | exact own_le (by omega) | exact own_lt (by omega)))
    have cf_22 := (Fw17.other W20 (Or.inr (slot_ne (Or.inr (wd 22 rfl)) (Or.inr (wd 21 rfl)) (by decide) (t := .byte) (t' := (.array .byte)) (by decide) (by decide))))
    have cf_23 := (cf_18.wr W20)
    refine go_end X20 (v := none) (fun _ => rfl) Bd.notSynchronized (by decide) (by decide) (Q := (Q_u_i4_2 Z a s' c0 c1 ks gC u u2 h0 n0)) ?_ (fun fs hr => X20.returnOut hx Bd.returns (hb hby d3_57) hr)
    unfold Q_u_i4_2
    try rw [e20]
    exact ⟨rfl, N20, ((((Keep.refl h0 [a]).trans K3 all0).wr W17 (Or.inl (List.mem_of_getElem? (i := 0) rfl))).wr W20 (Or.inl (List.mem_of_getElem? (i := 0) rfl))), Or.inr ⟨b3, k3, cf_23, cf_22, Fw20, cf_21, (own_allc hc0 (own_allc hc1 (fun _ q => nomatch q)))⟩⟩
def Q_u_i1_2 (Z : State) (a : Addr) (s' : Addr) (c0 : Int32) (c1 : Int32) (ks : ClassId) (gC : Int32) (u : Value) (u2 : Value) (h0 : Heap) (n0 : Nat) (v : Option Value) (h : Heap) (L : List Loc) : Prop := v = none ∧ Fr n0 L ∧ Keep h0 h [a] ∧ StrU Z h a 2 4 [c0, c1]
theorem ef_u_i1_2 (m : MethodId) (a : Addr) (s' : Addr)  : entryFrame m #[(.ref a), (.ref s')] 2 = mkF m 0 #[.val (.ref a), .val (.ref s')] [] := by first | (simp [entryFrame, mkF, argsToLocals, Value.category]; done) | rfl
theorem u_i1_2 (l : Launch) (Z : State) (a0 : Array Value) (hw : TW a0 Z) (ws : List Jvm.Cond) (a : Addr) (s' : Addr) (c0 : Int32) (c1 : Int32) (ks : ClassId) (gC : Int32) (u : Value) (u2 : Value) (h0 : Heap) (n0 : Nat) (Z0 : n0 ≤ h0.size) (O : Old Z n0 h0) (SC : Sta Z Z.heap "java/lang/String" "COMPACT_STRINGS" "Z" (.int gC)) (hgC : ¬ gC = (0 : Int32)) (SU : US Z) (E : Exa Z h0 a "java/lang/String") (F : Fld Z h0 a "java/lang/String" "value" "[B" u) (F2 : Fld Z h0 a "java/lang/String" "coder" "B" u2) (g : n0 ≤ a) (Vs : Arv Z h0 s' ks .char 2 [(.int c0), (.int c1)] (.int 0)) (hc0 : ¬ c0 < 0 ∧ ¬ (65535 : Int32) < c0) (hc1 : ¬ c1 < 0 ∧ ¬ (65535 : Int32) < c1) :
    own_MF l Z MN3 jdk_42_method_3_code 2 none ws (own_R 5 2 6 74) #[(.ref a), (.ref s')] h0 (Q_u_i1_2 Z a s' c0 c1 ks gC u u2 h0 n0) := by
  have wd := @own_wd _ _ hw
  refine MetFree.of_bodySF (plainFor_of_name pn_java_lang_String) hisR ?_
  intro p e s m args below meth c s₁ Bd hml0 hP hK
  obtain ⟨rfl, hZ, hh⟩ := hP
  have hx := Bd.exec
  have hby := Bd.bytes
  have hml : c.maxLocals = 2 := hml0
  have hown : s.vm.findClass "java/lang/String" = some m.cls := findClass_of_methodNamed Bd.named
  have hnm := (name_of_methodNamed Bd.named Bd.method).1
  have X0 : Stand p l e (own_R 5 2 6 74) s m #[(.ref a), (.ref s')] below meth c s₁ [] 0 0 := Stand.of_body Bd
  have e0 : s₁.heap = h0 := by rw [← hh, Bd.state]; rfl
  have N0 := Fr.nil n0
  have lta := own_nlt (E.lt)
  have lts := own_nlt (Vs.lt)
  refine go_of (A := s₁.setTop (entryFrame m #[(.ref a), (.ref s')] 2)) (B := s₁.setTop (mkF m 0 #[.val (.ref a), .val (.ref s')] [])) (fun _ kk' => castTop (ef_u_i1_2 m a s') kk') ?_
  refine go_of (B := (s₁.setTop (mkF m 4 #[.val (.ref a), .val (.ref s')] [(.ref s'), (.int (0 : Int32)), (.ref s'), (.ref a)]))) (fun _ kk => XS.aloadN X0.here hx rfl (hb hby d2_0) rfl rfl (XS.aloadN X0.here hx rfl (hb hby d2_1) rfl rfl (XS.iconst X0.here hx rfl (hb hby d2_2) (XS.aloadN X0.here hx rfl (hb hby d2_3) rfl rfl kk)))) ?_
  obtain ⟨cl1, Ar1, q1, Sz1, Nn1, Hh1, G1⟩ := id (Vs)
  have ln1 := len_of Sz1 Nn1
  refine go_of (B := (s₁.setTop (mkF m 5 #[.val (.ref a), .val (.ref s')] [(.int (2 : Int32)), (.int (0 : Int32)), (.ref s'), (.ref a)]))) (fun _ kk => X0.arraylength hx (by rw [e0]; exact Ar1.1) (State.isArrayOf_alike hZ.alike Ar1.2.1) (g := (mkF m 4 #[.val (.ref a), .val (.ref s')] [(.ref s'), (.int (0 : Int32)), (.ref s'), (.ref a)])) rfl rfl (hb hby d2_4) _ (by rw [ln1]; exact kk)) ?_
  refine go_of (B := (s₁.setTop (mkF m 6 #[.val (.ref a), .val (.ref s')] [.null, (.int (2 : Int32)), (.int (0 : Int32)), (.ref s'), (.ref a)]))) (fun _ kk => XS.aconstNull X0.here hx rfl (hb hby d2_5) kk) ?_
  obtain ⟨_, _, ⟨T2, L2, k2, n2⟩, -, X2, ⟨Lc2, hQ2, l2, y2, z2⟩, st2⟩ := X0.specialBack hx (y := MN4) rfl hown (mvT hZ (wd 12 rfl)) (mvT hZ (wd 13 rfl)) (mvT hZ (wd 15 rfl)) (by decide) (backOf (W := 0) (u_i4_2 l Z a0 hw [] a s' c0 c1 ks gC u u2 h0 n0 (by first | omega | exact own_ne (by omega) | exact own_le (by omega) | exact own_lt (by omega)) O SC hgC SU E F F2 g Vs hc0 hc1) hZ (wd 15 rfl) (wd 3 rfl) (by decide) (by decide)) (g := (mkF m 6 #[.val (.ref a), .val (.ref s')] [.null, (.int (2 : Int32)), (.int (0 : Int32)), (.ref s'), (.ref a)])) rfl (by rw [hml]; rfl) (Steps.refl _) (a := a) (argsL := [(.ref s'), (.int (0 : Int32)), (.int (2 : Int32)), .null]) (rest := []) (lenOf pd___CIILjava_lang_Void__V rfl) rfl (by show 2 * 0 + _ ≤ _; exact Nat.le_of_eq rfl) (hb hby d2_6) (fun _ _ => ⟨rfl, e0, (by decide : 0 + 2 ≤ _), (by decide : 0 + 6 ≤ _)⟩)
  dsimp only [Pt.U, Pt.locs, Pt.cells, Pt.slots] at X2 l2 y2 z2 st2 hQ2
  subst l2 y2 z2
  obtain ⟨rfl, N2q, K2, S2⟩ := hQ2
  have N2 := Fr.app N0 N2q
  have sz2 := K2.1
  refine go_tr (B := (T2.setTop (mkF m 9 #[.val (.ref a), .val (.ref s')] []))) (st2) ?_
  refine go_end X2 (v := none) (fun _ => rfl) Bd.notSynchronized (by decide) (by decide) (Q := (Q_u_i1_2 Z a s' c0 c1 ks gC u u2 h0 n0)) ?_ (fun fs hr => X2.returnOut hx Bd.returns (hb hby d2_9) hr)
  unfold Q_u_i1_2
  exact ⟨rfl, N2, ((Keep.refl h0 [a]).trans K2 (allS (Or.inl (List.mem_of_getElem? (i := 0) rfl)) all0)), S2⟩
def Q_u_c5_3 (Z : State) (s' : Addr) (d : Addr) (c0 : Int32) (c1 : Int32) (c2 : Int32) (ks : ClassId) (kd : ClassId) (h0 : Heap) (n0 : Nat) (v : Option Value) (h : Heap) (L : List Loc) : Prop := ∃ r : Int32, v = some (.int r) ∧ Fr n0 L ∧ Keep h0 h [d] ∧ ((r = 3 ∧ ¬ (255 : Int32) < c0 ∧ ¬ (255 : Int32) < c1 ∧ ¬ (255 : Int32) < c2 ∧ Arv Z h d kd .byte 3 [(.int (own_b8 c0)), (.int (own_b8 c1)), (.int (own_b8 c2))] (.int 0)) ∨ (r = 0 ∧ (255 : Int32) < c0) ∨ (r = 1 ∧ (255 : Int32) < c1) ∨ (r = 2 ∧ (255 : Int32) < c2))
theorem ef_u_c5_3 (m : MethodId) (s' : Addr) (d : Addr)  : entryFrame m #[(.ref s'), (.int (0 : Int32)), (.ref d), (.int (0 : Int32)), (.int (3 : Int32))] 7 = mkF m 0 #[.val (.ref s'), .val (.int (0 : Int32)), .val (.ref d), .val (.int (0 : Int32)), .val (.int (3 : Int32)), .unset, .unset] [] := by first | (simp [entryFrame, mkF, argsToLocals, Value.category]; done) | rfl
theorem u_c5_3 (l : Launch) (Z : State) (a0 : Array Value) (hw : TW a0 Z) (ws : List Jvm.Cond) (s' : Addr) (d : Addr) (c0 : Int32) (c1 : Int32) (c2 : Int32) (ks : ClassId) (kd : ClassId) (h0 : Heap) (n0 : Nat) (Z0 : n0 ≤ h0.size) (Vs : Arv Z h0 s' ks .char 3 [(.int c0), (.int c1), (.int c2)] (.int 0)) (Vd : Arv Z h0 d kd .byte 3 [(.int 0), (.int 0), (.int 0)] (.int 0)) (nsd : s' ≠ d) (g : n0 ≤ d) :
    own_MF l Z MN13 jdk_52_method_21_code 7 (some .int) ws (own_R 0 0 0 0) #[(.ref s'), (.int (0 : Int32)), (.ref d), (.int (0 : Int32)), (.int (3 : Int32))] h0 (Q_u_c5_3 Z s' d c0 c1 c2 ks kd h0 n0) := by
  have wd := @own_wd _ _ hw
  refine MetFree.of_bodySF (plainFor_of_name pn_java_lang_StringUTF16) hisR ?_
  intro p e s m args below meth c s₁ Bd hml0 hP hK
  obtain ⟨rfl, hZ, hh⟩ := hP
  have hx := Bd.exec
  have hby := Bd.bytes
  have hml : c.maxLocals = 7 := hml0
  have hown : s.vm.findClass "java/lang/StringUTF16" = some m.cls := findClass_of_methodNamed Bd.named
  have hnm := (name_of_methodNamed Bd.named Bd.method).1
  have X0 : Stand p l e (own_R 0 0 0 0) s m #[(.ref s'), (.int (0 : Int32)), (.ref d), (.int (0 : Int32)), (.int (3 : Int32))] below meth c s₁ [] 0 0 := Stand.of_body Bd
  have e0 : s₁.heap = h0 := by rw [← hh, Bd.state]; rfl
  have N0 := Fr.nil n0
  have lts := own_nlt (Vs.lt)
  have ltd := own_nlt (Vd.lt)
  refine go_of (A := s₁.setTop (entryFrame m #[(.ref s'), (.int (0 : Int32)), (.ref d), (.int (0 : Int32)), (.int (3 : Int32))] 7)) (B := s₁.setTop (mkF m 0 #[.val (.ref s'), .val (.int (0 : Int32)), .val (.ref d), .val (.int (0 : Int32)), .val (.int (3 : Int32)), .unset, .unset] [])) (fun _ kk' => castTop (ef_u_c5_3 m s' d) kk') ?_
  refine go_of (B := (s₁.setTop (mkF m 11 #[.val (.ref s'), .val (.int (0 : Int32)), .val (.ref d), .val (.int (0 : Int32)), .val (.int (3 : Int32)), .val (.int (0 : Int32)), .unset] [(.ref s')]))) (fun _ kk => XS.iconst X0.here hx rfl (hb hby d8_0) (XS.istore X0.here hx rfl (hb hby d8_1) rfl rfl (XS.iload X0.here hx rfl (hb hby d8_3) rfl (XS.iload X0.here hx rfl (hb hby d8_5) rfl (XS.icmpNo X0.here hx rfl (hb hby d8_7) rfl (tlt (by decide : (0 : Int32) < (3 : Int32))).2.1 (XS.aloadN X0.here hx rfl (hb hby d8_10) rfl rfl kk)))))) ?_
  refine go_of (B := (s₁.setTop (mkF m 12 #[.val (.ref s'), .val (.int (0 : Int32)), .val (.ref d), .val (.int (0 : Int32)), .val (.int (3 : Int32)), .val (.int (0 : Int32)), .unset] [(.int (0 : Int32)), (.ref s')]))) (fun _ kk => XS.iloadN X0.here hx rfl (hb hby d8_11) rfl kk) ?_
  obtain ⟨cl1, Ar1, q1, Sz1, Nn1, Hh1, G1⟩ := id (Vs)
  refine go_of (B := (s₁.setTop (mkF m 20 #[.val (.ref s'), .val (.int (0 : Int32)), .val (.ref d), .val (.int (0 : Int32)), .val (.int (3 : Int32)), .val (.int (0 : Int32)), .val (.int c0)] [(.int (255 : Int32)), (.int c0)]))) (fun _ kk => X0.caload hx (j := (0 : Int32)) (v := (.int c0)) (by rw [e0]; exact Ar1.1) (State.isArrayOf_alike hZ.alike Ar1.2.1) Ar1.2.2 (inb_of Sz1 ⟨by decide, by decide⟩) (Hh1.at (inb_of Sz1 ⟨by decide, by decide⟩) rfl) (g := (mkF m 12 #[.val (.ref s'), .val (.int (0 : Int32)), .val (.ref d), .val (.int (0 : Int32)), .val (.int (3 : Int32)), .val (.int (0 : Int32)), .unset] [(.int (0 : Int32)), (.ref s')])) rfl rfl (hb hby d8_12) _ (XS.istore X0.here hx rfl (hb hby d8_13) rfl rfl (XS.iload X0.here hx rfl (hb hby d8_15) rfl (XS.sipush X0.here hx rfl (hb hby d8_17) kk)))) ?_
  by_cases hcc2 : (255 : Int32) < c0
  · refine go_of (B := (s₁.setTop (mkF m 25 #[.val (.ref s'), .val (.int (0 : Int32)), .val (.ref d), .val (.int (0 : Int32)), .val (.int (3 : Int32)), .val (.int (0 : Int32)), .val (.int c0)] [(.int (0 : Int32))]))) (fun _ kk => XS.icmpNo X0.here hx rfl (hb hby d8_20) rfl (tlt hcc2).2.2.2 (XS.iload X0.here hx rfl (hb hby d8_23) rfl kk)) ?_
    refine go_end X0 (v := some (.int (0 : Int32))) (fun h => by rw [Bd.returns] at h; cases h) Bd.notSynchronized (by decide) (by decide) (Q := (Q_u_c5_3 Z s' d c0 c1 c2 ks kd h0 n0)) ?_ (fun fs hr => own_retI X0 hx Bd.returns (hb hby d8_25) hr)
    unfold Q_u_c5_3
    try rw [e0]
    exact ⟨_, rfl, N0, (Keep.refl h0 [d]), Or.inr (Or.inl ⟨rfl, hcc2⟩)⟩
  · refine go_of (B := (s₁.setTop (mkF m 31 #[.val (.ref s'), .val (.int (0 : Int32)), .val (.ref d), .val (.int (0 : Int32)), .val (.int (3 : Int32)), .val (.int (0 : Int32)), .val (.int c0)] [(.int (c0.toInt8.toInt32)), (.int (0 : Int32)), (.ref d)]))) (fun _ kk => XS.icmpYes X0.here hx rfl (pc0 := 20) (pc' := 26) rfl (hb hby d8_20) rfl (flt hcc2).2.2.2 (by decide) (by decide) (XS.aloadN X0.here hx rfl (hb hby d8_26) rfl rfl (XS.iloadN X0.here hx rfl (hb hby d8_27) rfl (XS.iload X0.here hx rfl (hb hby d8_28) rfl (XS.i2b X0.here hx rfl (hb hby d8_30) rfl kk))))) ?_
    obtain ⟨cl3, Ar3, q3, Sz3, Nn3, Hh3, G3⟩ := id (Vd)
    obtain ⟨T4, h4, X4, e4, W4, st4⟩ := stB X0 hx hZ e0 Ar3 (j := (0 : Int32)) (inb_of Sz3 ⟨by decide, by decide⟩) (g := (mkF m 31 #[.val (.ref s'), .val (.int (0 : Int32)), .val (.ref d), .val (.int (0 : Int32)), .val (.int (3 : Int32)), .val (.int (0 : Int32)), .val (.int c0)] [(.int (c0.toInt8.toInt32)), (.int (0 : Int32)), (.ref d)])) rfl rfl (hb hby d8_31)
    have sz4 := W4.size
    have N4 := Fr.snoc X4 N0 (g : n0 ≤ d)
    have V4 : Arv Z h4 d kd .byte (3 : Int32) [(.int ((c0.toInt8.toInt32).toInt8.toInt32)), (.int (0 : Int32)), (.int (0 : Int32))] (.int (0 : Int32)) := Arv.set Ar3 q3 Sz3 Nn3 Hh3 G3 (fits_nar_byte _) W4 0 rfl (Nat.le_of_ble_eq_true rfl)
    rw [own_bb] at V4
    refine go_of (B := (T4.setTop (mkF m 32 #[.val (.ref s'), .val (.int (0 : Int32)), .val (.ref d), .val (.int (0 : Int32)), .val (.int (3 : Int32)), .val (.int (0 : Int32)), .val (.int c0)] []))) (st4) ?_
    refine go_of (B := (T4.setTop (mkF m 7 #[.val (.ref s'), .val (.int (1 : Int32)), .val (.ref d), .val (.int (1 : Int32)), .val (.int (3 : Int32)), .val (.int (1 : Int32)), .val (.int c0)] [(.int (3 : Int32)), (.int (1 : Int32))]))) (fun _ kk => XS.iinc X4.here hx rfl (hb hby d8_32) rfl rfl (XS.iinc X4.here hx rfl (hb hby d8_35) rfl rfl (XS.iinc X4.here hx rfl (hb hby d8_38) rfl rfl (XS.goto X4.here hx rfl (pc0 := 41) (pc' := 3) rfl (hb hby d8_41) (by decide) (by decide) (XS.iload X4.here hx rfl (hb hby d8_3) rfl (XS.iload X4.here hx rfl (hb hby d8_5) rfl kk)))))) ?_
    refine go_of (B := (T4.setTop (mkF m 12 #[.val (.ref s'), .val (.int (1 : Int32)), .val (.ref d), .val (.int (1 : Int32)), .val (.int (3 : Int32)), .val (.int (1 : Int32)), .val (.int c0)] [(.int (1 : Int32)), (.ref s')]))) (fun _ kk => XS.icmpNo X4.here hx rfl (hb hby d8_7) rfl (tlt (by decide : (1 : Int32) < (3 : Int32))).2.1 (XS.aloadN X4.here hx rfl (hb hby d8_10) rfl rfl (XS.iloadN X4.here hx rfl (hb hby d8_11) rfl kk))) ?_
    have cf_5 := (Vs.other W4 (by first | omega | exact own_ne (by omega) | exact own_le (by omega) | exact own_lt (by omega)))
    obtain ⟨cl6, Ar6, q6, Sz6, Nn6, Hh6, G6⟩ := id (cf_5)
    refine go_of (B := (T4.setTop (mkF m 20 #[.val (.ref s'), .val (.int (1 : Int32)), .val (.ref d), .val (.int (1 : Int32)), .val (.int (3 : Int32)), .val (.int (1 : Int32)), .val (.int c1)] [(.int (255 : Int32)), (.int c1)]))) (fun _ kk => X4.caload hx (j := (1 : Int32)) (v := (.int c1)) (by rw [e4]; exact Ar6.1) (State.isArrayOf_alike hZ.alike Ar6.2.1) Ar6.2.2 (inb_of Sz6 ⟨by decide, by decide⟩) (Hh6.at (inb_of Sz6 ⟨by decide, by decide⟩) rfl) (g := (mkF m 12 #[.val (.ref s'), .val (.int (1 : Int32)), .val (.ref d), .val (.int (1 : Int32)), .val (.int (3 : Int32)), .val (.int (1 : Int32)), .val (.int c0)] [(.int (1 : Int32)), (.ref s')])) rfl rfl (hb hby d8_12) _ (XS.istore X4.here hx rfl (hb hby d8_13) rfl rfl (XS.iload X4.here hx rfl (hb hby d8_15) rfl (XS.sipush X4.here hx rfl (hb hby d8_17) kk)))) ?_
    by_cases hcc7 : (255 : Int32) < c1
    · refine go_of (B := (T4.setTop (mkF m 25 #[.val (.ref s'), .val (.int (1 : Int32)), .val (.ref d), .val (.int (1 : Int32)), .val (.int (3 : Int32)), .val (.int (1 : Int32)), .val (.int c1)] [(.int (1 : Int32))]))) (fun _ kk => XS.icmpNo X4.here hx rfl (hb hby d8_20) rfl (tlt hcc7).2.2.2 (XS.iload X4.here hx rfl (hb hby d8_23) rfl kk)) ?_
      refine go_end X4 (v := some (.int (1 : Int32))) (fun h => by rw [Bd.returns] at h; cases h) Bd.notSynchronized (by decide) (by decide) (Q := (Q_u_c5_3 Z s' d c0 c1 c2 ks kd h0 n0)) ?_ (fun fs hr => own_retI X4 hx Bd.returns (hb hby d8_25) hr)
      unfold Q_u_c5_3
      try rw [e4]
      exact ⟨_, rfl, N4, ((Keep.refl h0 [d]).wr W4 (Or.inl (List.mem_of_getElem? (i := 0) rfl))), Or.inr (Or.inr (Or.inl ⟨rfl, hcc7⟩))⟩
    · refine go_of (B := (T4.setTop (mkF m 31 #[.val (.ref s'), .val (.int (1 : Int32)), .val (.ref d), .val (.int (1 : Int32)), .val (.int (3 : Int32)), .val (.int (1 : Int32)), .val (.int c1)] [(.int (c1.toInt8.toInt32)), (.int (1 : Int32)), (.ref d)]))) (fun _ kk => XS.icmpYes X4.here hx rfl (pc0 := 20) (pc' := 26) rfl (hb hby d8_20) rfl (flt hcc7).2.2.2 (by decide) (by decide) (XS.aloadN X4.here hx rfl (hb hby d8_26) rfl rfl (XS.iloadN X4.here hx rfl (hb hby d8_27) rfl (XS.iload X4.here hx rfl (hb hby d8_28) rfl (XS.i2b X4.here hx rfl (hb hby d8_30) rfl kk))))) ?_
      obtain ⟨cl8, Ar8, q8, Sz8, Nn8, Hh8, G8⟩ := id (V4)
      obtain ⟨T9, h9, X9, e9, W9, st9⟩ := stB X4 hx hZ e4 Ar8 (j := (1 : Int32)) (inb_of Sz8 ⟨by decide, by decide⟩) (g := (mkF m 31 #[.val (.ref s'), .val (.int (1 : Int32)), .val (.ref d), .val (.int (1 : Int32)), .val (.int (3 : Int32)), .val (.int (1 : Int32)), .val (.int c1)] [(.int (c1.toInt8.toInt32)), (.int (1 : Int32)), (.ref d)])) rfl rfl (hb hby d8_31)
      have sz9 := W9.size
      have N9 := Fr.snoc X9 N4 (g : n0 ≤ d)
      have V9 : Arv Z h9 d kd .byte (3 : Int32) [(.int (c0.toInt8.toInt32)), (.int ((c1.toInt8.toInt32).toInt8.toInt32)), (.int (0 : Int32))] (.int (0 : Int32)) := Arv.set Ar8 q8 Sz8 Nn8 Hh8 G8 (fits_nar_byte _) W9 1 rfl (Nat.le_of_ble_eq_true rfl)
      rw [own_bb] at V9
      refine go_of (B := (T9.setTop (mkF m 32 #[.val (.ref s'), .val (.int (1 : Int32)), .val (.ref d), .val (.int (1 : Int32)), .val (.int (3 : Int32)), .val (.int (1 : Int32)), .val (.int c1)] []))) (st9) ?_
      refine go_of (B := (T9.setTop (mkF m 7 #[.val (.ref s'), .val (.int (2 : Int32)), .val (.ref d), .val (.int (2 : Int32)), .val (.int (3 : Int32)), .val (.int (2 : Int32)), .val (.int c1)] [(.int (3 : Int32)), (.int (2 : Int32))]))) (fun _ kk => XS.iinc X9.here hx rfl (hb hby d8_32) rfl rfl (XS.iinc X9.here hx rfl (hb hby d8_35) rfl rfl (XS.iinc X9.here hx rfl (hb hby d8_38) rfl rfl (XS.goto X9.here hx rfl (pc0 := 41) (pc' := 3) rfl (hb hby d8_41) (by decide) (by decide) (XS.iload X9.here hx rfl (hb hby d8_3) rfl (XS.iload X9.here hx rfl (hb hby d8_5) rfl kk)))))) ?_
      refine go_of (B := (T9.setTop (mkF m 12 #[.val (.ref s'), .val (.int (2 : Int32)), .val (.ref d), .val (.int (2 : Int32)), .val (.int (3 : Int32)), .val (.int (2 : Int32)), .val (.int c1)] [(.int (2 : Int32)), (.ref s')]))) (fun _ kk => XS.icmpNo X9.here hx rfl (hb hby d8_7) rfl (tlt (by decide : (2 : Int32) < (3 : Int32))).2.1 (XS.aloadN X9.here hx rfl (hb hby d8_10) rfl rfl (XS.iloadN X9.here hx rfl (hb hby d8_11) rfl kk))) ?_
      have cf_10 := (cf_5.other W9 (by first | omega | exact own_ne (by omega) | exact own_le (by omega) | exact own_lt (by omega)))
      obtain ⟨cl11, Ar11, q11, Sz11, Nn11, Hh11, G11⟩ := id (cf_10)
      refine go_of (B := (T9.setTop (mkF m 20 #[.val (.ref s'), .val (.int (2 : Int32)), .val (.ref d), .val (.int (2 : Int32)), .val (.int (3 : Int32)), .val (.int (2 : Int32)), .val (.int c2)] [(.int (255 : Int32)), (.int c2)]))) (fun _ kk => X9.caload hx (j := (2 : Int32)) (v := (.int c2)) (by rw [e9]; exact Ar11.1) (State.isArrayOf_alike hZ.alike Ar11.2.1) Ar11.2.2 (inb_of Sz11 ⟨by decide, by decide⟩) (Hh11.at (inb_of Sz11 ⟨by decide, by decide⟩) rfl) (g := (mkF m 12 #[.val (.ref s'), .val (.int (2 : Int32)), .val (.ref d), .val (.int (2 : Int32)), .val (.int (3 : Int32)), .val (.int (2 : Int32)), .val (.int c1)] [(.int (2 : Int32)), (.ref s')])) rfl rfl (hb hby d8_12) _ (XS.istore X9.here hx rfl (hb hby d8_13) rfl rfl (XS.iload X9.here hx rfl (hb hby d8_15) rfl (XS.sipush X9.here hx rfl (hb hby d8_17) kk)))) ?_
      by_cases hcc12 : (255 : Int32) < c2
      · refine go_of (B := (T9.setTop (mkF m 25 #[.val (.ref s'), .val (.int (2 : Int32)), .val (.ref d), .val (.int (2 : Int32)), .val (.int (3 : Int32)), .val (.int (2 : Int32)), .val (.int c2)] [(.int (2 : Int32))]))) (fun _ kk => XS.icmpNo X9.here hx rfl (hb hby d8_20) rfl (tlt hcc12).2.2.2 (XS.iload X9.here hx rfl (hb hby d8_23) rfl kk)) ?_
        refine go_end X9 (v := some (.int (2 : Int32))) (fun h => by rw [Bd.returns] at h; cases h) Bd.notSynchronized (by decide) (by decide) (Q := (Q_u_c5_3 Z s' d c0 c1 c2 ks kd h0 n0)) ?_ (fun fs hr => own_retI X9 hx Bd.returns (hb hby d8_25) hr)
        unfold Q_u_c5_3
        try rw [e9]
        exact ⟨_, rfl, N9, (((Keep.refl h0 [d]).wr W4 (Or.inl (List.mem_of_getElem? (i := 0) rfl))).wr W9 (Or.inl (List.mem_of_getElem? (i := 0) rfl))), Or.inr (Or.inr (Or.inr (⟨rfl, hcc12⟩)))⟩
      · refine go_of (B := (T9.setTop (mkF m 31 #[.val (.ref s'), .val (.int (2 : Int32)), .val (.ref d), .val (.int (2 : Int32)), .val (.int (3 : Int32)), .val (.int (2 : Int32)), .val (.int c2)] [(.int (c2.toInt8.toInt32)), (.int (2 : Int32)), (.ref d)]))) (fun _ kk => XS.icmpYes X9.here hx rfl (pc0 := 20) (pc' := 26) rfl (hb hby d8_20) rfl (flt hcc12).2.2.2 (by decide) (by decide) (XS.aloadN X9.here hx rfl (hb hby d8_26) rfl rfl (XS.iloadN X9.here hx rfl (hb hby d8_27) rfl (XS.iload X9.here hx rfl (hb hby d8_28) rfl (XS.i2b X9.here hx rfl (hb hby d8_30) rfl kk))))) ?_
        obtain ⟨cl13, Ar13, q13, Sz13, Nn13, Hh13, G13⟩ := id (V9)
        obtain ⟨T14, h14, X14, e14, W14, st14⟩ := stB X9 hx hZ e9 Ar13 (j := (2 : Int32)) (inb_of Sz13 ⟨by decide, by decide⟩) (g := (mkF m 31 #[.val (.ref s'), .val (.int (2 : Int32)), .val (.ref d), .val (.int (2 : Int32)), .val (.int (3 : Int32)), .val (.int (2 : Int32)), .val (.int c2)] [(.int (c2.toInt8.toInt32)), (.int (2 : Int32)), (.ref d)])) rfl rfl (hb hby d8_31)
        have sz14 := W14.size
        have N14 := Fr.snoc X14 N9 (g : n0 ≤ d)
        have V14 : Arv Z h14 d kd .byte (3 : Int32) [(.int (c0.toInt8.toInt32)), (.int (c1.toInt8.toInt32)), (.int ((c2.toInt8.toInt32).toInt8.toInt32))] (.int (0 : Int32)) := Arv.set Ar13 q13 Sz13 Nn13 Hh13 G13 (fits_nar_byte _) W14 2 rfl (Nat.le_of_ble_eq_true rfl)
        rw [own_bb] at V14
        refine go_of (B := (T14.setTop (mkF m 32 #[.val (.ref s'), .val (.int (2 : Int32)), .val (.ref d), .val (.int (2 : Int32)), .val (.int (3 : Int32)), .val (.int (2 : Int32)), .val (.int c2)] []))) (st14) ?_
        refine go_of (B := (T14.setTop (mkF m 7 #[.val (.ref s'), .val (.int (3 : Int32)), .val (.ref d), .val (.int (3 : Int32)), .val (.int (3 : Int32)), .val (.int (3 : Int32)), .val (.int c2)] [(.int (3 : Int32)), (.int (3 : Int32))]))) (fun _ kk => XS.iinc X14.here hx rfl (hb hby d8_32) rfl rfl (XS.iinc X14.here hx rfl (hb hby d8_35) rfl rfl (XS.iinc X14.here hx rfl (hb hby d8_38) rfl rfl (XS.goto X14.here hx rfl (pc0 := 41) (pc' := 3) rfl (hb hby d8_41) (by decide) (by decide) (XS.iload X14.here hx rfl (hb hby d8_3) rfl (XS.iload X14.here hx rfl (hb hby d8_5) rfl kk)))))) ?_
        refine go_of (B := (T14.setTop (mkF m 46 #[.val (.ref s'), .val (.int (3 : Int32)), .val (.ref d), .val (.int (3 : Int32)), .val (.int (3 : Int32)), .val (.int (3 : Int32)), .val (.int c2)] [(.int (3 : Int32))]))) (fun _ kk => XS.icmpYes X14.here hx rfl (pc0 := 7) (pc' := 44) rfl (hb hby d8_7) rfl (flt (by decide : ¬ ((3 : Int32) < (3 : Int32)))).2.1 (by decide) (by decide) (XS.iload X14.here hx rfl (hb hby d8_44) rfl kk)) ?_
        refine go_end X14 (v := some (.int (3 : Int32))) (fun h => by rw [Bd.returns] at h; cases h) Bd.notSynchronized (by decide) (by decide) (Q := (Q_u_c5_3 Z s' d c0 c1 c2 ks kd h0 n0)) ?_ (fun fs hr => own_retI X14 hx Bd.returns (hb hby d8_46) hr)
        unfold Q_u_c5_3
        try rw [e14]
        exact ⟨_, rfl, N14, ((((Keep.refl h0 [d]).wr W4 (Or.inl (List.mem_of_getElem? (i := 0) rfl))).wr W9 (Or.inl (List.mem_of_getElem? (i := 0) rfl))).wr W14 (Or.inl (List.mem_of_getElem? (i := 0) rfl))), Or.inl ⟨rfl, hcc2, hcc7, hcc12, V14⟩⟩
def Q_u_nbl_3 (Z : State)  (h0 : Heap) (n0 : Nat) (v : Option Value) (h : Heap) (L : List Loc) : Prop := v = some (.int 6) ∧ Fr n0 L ∧ h = h0
theorem ef_u_nbl_3 (m : MethodId)   : entryFrame m #[(.int (3 : Int32))] 1 = mkF m 0 #[.val (.int (3 : Int32))] [] := by first | (simp [entryFrame, mkF, argsToLocals, Value.category]; done) | rfl
theorem u_nbl_3 (l : Launch) (Z : State) (a0 : Array Value) (hw : TW a0 Z) (ws : List Jvm.Cond)  (h0 : Heap) (n0 : Nat) (Z0 : n0 ≤ h0.size)  :
    own_MF l Z MN16 jdk_52_method_3_code 1 (some .int) ws (own_R 0 0 0 0) #[(.int (3 : Int32))] h0 (Q_u_nbl_3 Z  h0 n0) := by
  have wd := @own_wd _ _ hw
  refine MetFree.of_bodySF (plainFor_of_name pn_java_lang_StringUTF16) hisR ?_
  intro p e s m args below meth c s₁ Bd hml0 hP hK
  obtain ⟨rfl, hZ, hh⟩ := hP
  have hx := Bd.exec
  have hby := Bd.bytes
  have hml : c.maxLocals = 1 := hml0
  have hown : s.vm.findClass "java/lang/StringUTF16" = some m.cls := findClass_of_methodNamed Bd.named
  have hnm := (name_of_methodNamed Bd.named Bd.method).1
  have X0 : Stand p l e (own_R 0 0 0 0) s m #[(.int (3 : Int32))] below meth c s₁ [] 0 0 := Stand.of_body Bd
  have e0 : s₁.heap = h0 := by rw [← hh, Bd.state]; rfl
  have N0 := Fr.nil n0
  refine go_of (A := s₁.setTop (entryFrame m #[(.int (3 : Int32))] 1)) (B := s₁.setTop (mkF m 0 #[.val (.int (3 : Int32))] [])) (fun _ kk' => castTop (ef_u_nbl_3 m ) kk') ?_
  refine go_of (B := (s₁.setTop (mkF m 56 #[.val (.int (3 : Int32))] [(.int (3 : Int32))]))) (fun _ kk => XS.iloadN X0.here hx rfl (hb hby d20_0) rfl (XS.ifYes X0.here hx rfl (pc0 := 1) (pc' := 12) rfl (hb hby d20_1) rfl ((if0 _ _).trans (flt (by decide : ¬ ((3 : Int32) < (0 : Int32)))).2.1) (by decide) (by decide) (XS.iloadN X0.here hx rfl (hb hby d20_12) rfl (X0.ldcInt hx hown (mvT hZ (wd 91 rfl)) (g := (mkF m 13 #[.val (.int (3 : Int32))] [(.int (3 : Int32))])) rfl (hb hby d20_13) _ (XS.icmpYes X0.here hx rfl (pc0 := 15) (pc' := 55) rfl (hb hby d20_15) rfl (tlt (by decide : (3 : Int32) < (1073741823 : Int32))).1 (by decide) (by decide) (XS.iloadN X0.here hx rfl (hb hby d20_55) rfl kk)))))) ?_
  refine go_of (B := (s₁.setTop (mkF m 58 #[.val (.int (3 : Int32))] [(.int (6 : Int32))]))) (fun _ kk => XS.iconst X0.here hx rfl (hb hby d20_56) (XS.ishl X0.here hx rfl (hb hby d20_57) rfl kk)) ?_
  refine go_end X0 (v := some (.int (6 : Int32))) (fun h => by rw [Bd.returns] at h; cases h) Bd.notSynchronized (by decide) (by decide) (Q := (Q_u_nbl_3 Z  h0 n0)) ?_ (fun fs hr => own_retI X0 hx Bd.returns (hb hby d20_58) hr)
  unfold Q_u_nbl_3
  try rw [e0]
  exact ⟨rfl, N0, rfl⟩
def Q_u_nbf_3 (Z : State)  (h0 : Heap) (n0 : Nat) (v : Option Value) (h : Heap) (L : List Loc) : Prop := ∃ (t : Addr) (k : ClassId), v = some (.ref t) ∧ Fr n0 L ∧ h0.size ≤ t ∧ Keep h0 h [] ∧ Arv Z h t k .byte 6 [(.int 0), (.int 0), (.int 0), (.int 0), (.int 0), (.int 0)] (.int 0)
theorem ef_u_nbf_3 (m : MethodId)   : entryFrame m #[(.int (3 : Int32))] 1 = mkF m 0 #[.val (.int (3 : Int32))] [] := by first | (simp [entryFrame, mkF, argsToLocals, Value.category]; done) | rfl
theorem u_nbf_3 (l : Launch) (Z : State) (a0 : Array Value) (hw : TW a0 Z) (ws : List Jvm.Cond)  (h0 : Heap) (n0 : Nat) (Z0 : n0 ≤ h0.size)  :
    own_MF l Z MN15 jdk_52_method_2_code 1 (some (.array .byte)) ws (own_R 1 1 6 12) #[(.int (3 : Int32))] h0 (Q_u_nbf_3 Z  h0 n0) := by
  have wd := @own_wd _ _ hw
  refine MetFree.of_bodySF (plainFor_of_name pn_java_lang_StringUTF16) hisR ?_
  intro p e s m args below meth c s₁ Bd hml0 hP hK
  obtain ⟨rfl, hZ, hh⟩ := hP
  have hx := Bd.exec
  have hby := Bd.bytes
  have hml : c.maxLocals = 1 := hml0
  have hown : s.vm.findClass "java/lang/StringUTF16" = some m.cls := findClass_of_methodNamed Bd.named
  have hnm := (name_of_methodNamed Bd.named Bd.method).1
  have X0 : Stand p l e (own_R 1 1 6 12) s m #[(.int (3 : Int32))] below meth c s₁ [] 0 0 := Stand.of_body Bd
  have e0 : s₁.heap = h0 := by rw [← hh, Bd.state]; rfl
  have N0 := Fr.nil n0
  refine go_of (A := s₁.setTop (entryFrame m #[(.int (3 : Int32))] 1)) (B := s₁.setTop (mkF m 0 #[.val (.int (3 : Int32))] [])) (fun _ kk' => castTop (ef_u_nbf_3 m ) kk') ?_
  refine go_of (B := (s₁.setTop (mkF m 1 #[.val (.int (3 : Int32))] [(.int (3 : Int32))]))) (fun _ kk => XS.iloadN X0.here hx rfl (hb hby d19_0) rfl kk) ?_
  obtain ⟨_, _, ⟨T1, L1, k1, n1⟩, -, X1, ⟨Lc1, hQ1, l1, y1, z1⟩, st1⟩ := Jvm.LawKit.callS X0 hx (y := MN16) hown (mvT hZ (wd 88 rfl)) (mvT hZ (wd 89 rfl)) (mvT hZ (wd 39 rfl)) (mvT hZ (wd 90 rfl)) (by decide) (backOf (W := 0) (u_nbl_3 l Z a0 hw [] h0 n0 (by first | omega | exact own_ne (by omega) | exact own_le (by omega) | exact own_lt (by omega))) hZ (wd 90 rfl) (wd 39 rfl) (by decide) (by decide)) (g := (mkF m 1 #[.val (.int (3 : Int32))] [(.int (3 : Int32))])) rfl (by rw [hml]; rfl) (argsL := [(.int (3 : Int32))]) (rest := []) (lenOf pd__I_I rfl) rfl (by show 2 * 0 + _ ≤ _; exact Nat.le_of_eq rfl) (hb hby d19_1) (fun _ _ => ⟨rfl, e0, (by decide : 0 + 0 ≤ _), (by decide : 0 + 0 ≤ _)⟩)
  dsimp only [Pt.U, Pt.locs, Pt.cells, Pt.slots] at X1 l1 y1 z1 st1 hQ1
  subst l1 y1 z1
  obtain ⟨rfl, N1q, e1⟩ := hQ1
  have N1 := Fr.app N0 N1q
  refine go_of (B := (T1.setTop (mkF m 4 #[.val (.int (3 : Int32))] [(.int (6 : Int32))]))) (st1) ?_
  obtain ⟨T2, h2, k2, X2, e2, E2, A2, st2⟩ := newP X1 hx hZ (wd 20 rfl) e1 (g := (mkF m 4 #[.val (.int (3 : Int32))] [(.int (6 : Int32))])) rfl (hb hby d19_4) rfl (by decide) (cap := 6) (by decide) (by decide) (by decide) (by decide)
  obtain ⟨b2, g2⟩ : ∃ z, z = h0.size := ⟨_, rfl⟩
  rw [← g2] at A2 st2
  have hi2 := own_nlt A2.lt
  have sz2 := E2.1
  have V2 : Arv Z h2 b2 k2 .byte (6 : Int32) [(.int (0 : Int32)), (.int (0 : Int32)), (.int (0 : Int32)), (.int (0 : Int32)), (.int (0 : Int32)), (.int (0 : Int32))] (.int (0 : Int32)) := (Arv.new A2 (by decide)).pad (pad_rep [] (.int (0 : Int32)) 6)
  refine go_of (B := (T2.setTop (mkF m 6 #[.val (.int (3 : Int32))] [(.ref b2)]))) (st2) ?_
  refine go_end X2 (v := some (.ref b2)) (fun h => by rw [Bd.returns] at h; cases h) Bd.notSynchronized (by decide) (by decide) (Q := (Q_u_nbf_3 Z  h0 n0)) ?_ (fun fs hr => own_retA X2 hx Bd.returns rfl rfl (hb hby d19_6) hr)
  unfold Q_u_nbf_3
  try rw [e2]
  exact ⟨b2, k2, rfl, N1, by omega, ((Keep.refl h0 []).ext E2), V2⟩
def Q_u_tob_3 (Z : State) (s' : Addr) (c0 : Int32) (c1 : Int32) (c2 : Int32) (ks : ClassId) (h0 : Heap) (n0 : Nat) (v : Option Value) (h : Heap) (L : List Loc) : Prop := ∃ (t : Addr) (k : ClassId), v = some (.ref t) ∧ Fr n0 L ∧ h0.size ≤ t ∧ Keep h0 h [] ∧ Arv Z h t k .byte 6 [(.int (own_b0 c0)), (.int (own_b1 c0)), (.int (own_b0 c1)), (.int (own_b1 c1)), (.int (own_b0 c2)), (.int (own_b1 c2))] (.int 0)
theorem ef_u_tob_3 (m : MethodId) (s' : Addr)  : entryFrame m #[(.ref s'), (.int (0 : Int32)), (.int (3 : Int32))] 5 = mkF m 0 #[.val (.ref s'), .val (.int (0 : Int32)), .val (.int (3 : Int32)), .unset, .unset] [] := by first | (simp [entryFrame, mkF, argsToLocals, Value.category]; done) | rfl
theorem u_tob_3 (l : Launch) (Z : State) (a0 : Array Value) (hw : TW a0 Z) (ws : List Jvm.Cond) (s' : Addr) (c0 : Int32) (c1 : Int32) (c2 : Int32) (ks : ClassId) (h0 : Heap) (n0 : Nat) (Z0 : n0 ≤ h0.size) (O : Old Z n0 h0) (SU : US Z) (Vs : Arv Z h0 s' ks .char 3 [(.int c0), (.int c1), (.int c2)] (.int 0)) :
    own_MF l Z MN18 jdk_52_method_14_code 5 (some (.array .byte)) ws (own_R 2 1 6 24) #[(.ref s'), (.int (0 : Int32)), (.int (3 : Int32))] h0 (Q_u_tob_3 Z s' c0 c1 c2 ks h0 n0) := by
  have wd := @own_wd _ _ hw
  refine MetFree.of_bodySF (plainFor_of_name pn_java_lang_StringUTF16) hisR ?_
  intro p e s m args below meth c s₁ Bd hml0 hP hK
  obtain ⟨rfl, hZ, hh⟩ := hP
  have hx := Bd.exec
  have hby := Bd.bytes
  have hml : c.maxLocals = 5 := hml0
  have hown : s.vm.findClass "java/lang/StringUTF16" = some m.cls := findClass_of_methodNamed Bd.named
  have hnm := (name_of_methodNamed Bd.named Bd.method).1
  have X0 : Stand p l e (own_R 2 1 6 24) s m #[(.ref s'), (.int (0 : Int32)), (.int (3 : Int32))] below meth c s₁ [] 0 0 := Stand.of_body Bd
  have e0 : s₁.heap = h0 := by rw [← hh, Bd.state]; rfl
  have N0 := Fr.nil n0
  have lts := own_nlt (Vs.lt)
  refine go_of (A := s₁.setTop (entryFrame m #[(.ref s'), (.int (0 : Int32)), (.int (3 : Int32))] 5)) (B := s₁.setTop (mkF m 0 #[.val (.ref s'), .val (.int (0 : Int32)), .val (.int (3 : Int32)), .unset, .unset] [])) (fun _ kk' => castTop (ef_u_tob_3 m s') kk') ?_
  refine go_of (B := (s₁.setTop (mkF m 1 #[.val (.ref s'), .val (.int (0 : Int32)), .val (.int (3 : Int32)), .unset, .unset] [(.int (3 : Int32))]))) (fun _ kk => XS.iloadN X0.here hx rfl (hb hby d18_0) rfl kk) ?_
  obtain ⟨_, _, ⟨T1, L1, k1, n1⟩, -, X1, ⟨Lc1, hQ1, l1, y1, z1⟩, st1⟩ := Jvm.LawKit.callS X0 hx (y := MN15) hown (mvT hZ (wd 85 rfl)) (mvT hZ (wd 86 rfl)) (mvT hZ (wd 39 rfl)) (mvT hZ (wd 87 rfl)) (by decide) (backOf (W := 0) (u_nbf_3 l Z a0 hw [] h0 n0 (by first | omega | exact own_ne (by omega) | exact own_le (by omega) | exact own_lt (by omega))) hZ (wd 87 rfl) (wd 39 rfl) (by decide) (by decide)) (g := (mkF m 1 #[.val (.ref s'), .val (.int (0 : Int32)), .val (.int (3 : Int32)), .unset, .unset] [(.int (3 : Int32))])) rfl (by rw [hml]; rfl) (argsL := [(.int (3 : Int32))]) (rest := []) (lenOf pd__I__B rfl) rfl (by show 2 * 0 + _ ≤ _; exact Nat.le_of_eq rfl) (hb hby d18_1) (fun _ _ => ⟨rfl, e0, (by decide : 0 + 1 ≤ _), (by decide : 0 + 6 ≤ _)⟩)
  dsimp only [Pt.U, Pt.locs, Pt.cells, Pt.slots] at X1 l1 y1 z1 st1 hQ1
  subst l1 y1 z1
  obtain ⟨b1, k1, rfl, N1q, lo1, K1, V1⟩ := hQ1
  have lo1 := own_nle lo1
  have N1 := Fr.app N0 N1q
  have hi1 := own_nlt (V1.lt)
  have sz1 := K1.1
  refine go_of (B := (T1.setTop (mkF m 4 #[.val (.ref s'), .val (.int (0 : Int32)), .val (.int (3 : Int32)), .unset, .unset] [(.ref b1)]))) (st1) ?_
  refine go_of (B := (T1.setTop (mkF m 14 #[.val (.ref s'), .val (.int (0 : Int32)), .val (.int (3 : Int32)), .val (.ref b1), .val (.int (0 : Int32))] []))) (fun _ kk => XS.astoreN X1.here hx rfl (hb hby d18_4) rfl rfl rfl (XS.iconst X1.here hx rfl (hb hby d18_5) (XS.istore X1.here hx rfl (hb hby d18_6) rfl rfl (XS.iload X1.here hx rfl (hb hby d18_8) rfl (XS.iloadN X1.here hx rfl (hb hby d18_10) rfl (XS.icmpNo X1.here hx rfl (hb hby d18_11) rfl (tlt (by decide : (0 : Int32) < (3 : Int32))).2.1 kk)))))) ?_
  refine go_of (B := (T1.setTop (mkF m 19 #[.val (.ref s'), .val (.int (0 : Int32)), .val (.int (3 : Int32)), .val (.ref b1), .val (.int (0 : Int32))] [(.int (0 : Int32)), (.ref s'), (.int (0 : Int32)), (.ref b1)]))) (fun _ kk => XS.aloadN X1.here hx rfl (hb hby d18_14) rfl rfl (XS.iload X1.here hx rfl (hb hby d18_15) rfl (XS.aloadN X1.here hx rfl (hb hby d18_17) rfl rfl (XS.iloadN X1.here hx rfl (hb hby d18_18) rfl kk)))) ?_
  have cf_2 := (Vs.keep K1 nin0)
  obtain ⟨cl3, Ar3, q3, Sz3, Nn3, Hh3, G3⟩ := id (cf_2)
  refine go_of (B := (T1.setTop (mkF m 20 #[.val (.ref s'), .val (.int (0 : Int32)), .val (.int (3 : Int32)), .val (.ref b1), .val (.int (0 : Int32))] [(.int c0), (.int (0 : Int32)), (.ref b1)]))) (fun _ kk => X1.caload hx (j := (0 : Int32)) (v := (.int c0)) (by exact Ar3.1) (State.isArrayOf_alike hZ.alike Ar3.2.1) Ar3.2.2 (inb_of Sz3 ⟨by decide, by decide⟩) (Hh3.at (inb_of Sz3 ⟨by decide, by decide⟩) rfl) (g := (mkF m 19 #[.val (.ref s'), .val (.int (0 : Int32)), .val (.int (3 : Int32)), .val (.ref b1), .val (.int (0 : Int32))] [(.int (0 : Int32)), (.ref s'), (.int (0 : Int32)), (.ref b1)])) rfl rfl (hb hby d18_19) _ kk) ?_
  have cf_4 := (O.keep K1 all0)
  obtain ⟨_, _, ⟨T5, L5, k5, n5⟩, -, X5, ⟨Lc5, hQ5, l5, y5, z5⟩, st5⟩ := Jvm.LawKit.callS X1 hx (y := MN17) hown (mvT hZ (wd 92 rfl)) (mvT hZ (wd 93 rfl)) (mvT hZ (wd 39 rfl)) (mvT hZ (wd 94 rfl)) (by decide) (backOf (W := 0) (u_put l Z a0 hw [] b1 (0 : Int32) c0 (6 : Int32) _ 0 1 k1 T1.heap n0 (by first | omega | exact own_ne (by omega) | exact own_le (by omega) | exact own_lt (by omega)) cf_4 SU V1 (by first | omega | exact own_ne (by omega) | exact own_le (by omega) | exact own_lt (by omega)) (by decide) (by decide) rfl rfl (Nat.le_of_ble_eq_true rfl) (Nat.le_of_ble_eq_true rfl)) hZ (wd 94 rfl) (wd 39 rfl) (by decide) (by decide)) (g := (mkF m 20 #[.val (.ref s'), .val (.int (0 : Int32)), .val (.int (3 : Int32)), .val (.ref b1), .val (.int (0 : Int32))] [(.int c0), (.int (0 : Int32)), (.ref b1)])) rfl (by rw [hml]; rfl) (argsL := [(.ref b1), (.int (0 : Int32)), (.int c0)]) (rest := []) (lenOf pd___BII_V rfl) rfl (by show 2 * 0 + _ ≤ _; exact Nat.le_of_eq rfl) (hb hby d18_20) (fun _ _ => ⟨rfl, rfl, (by decide : 1 + 0 ≤ _), (by decide : 6 + 0 ≤ _)⟩)
  dsimp only [Pt.U, Pt.locs, Pt.cells, Pt.slots] at X5 l5 y5 z5 st5 hQ5
  subst l5 y5 z5
  obtain ⟨rfl, N5q, K5, V5⟩ := hQ5
  have N5 := Fr.app N1 N5q
  have sz5 := K5.1
  refine go_of (B := (T5.setTop (mkF m 23 #[.val (.ref s'), .val (.int (0 : Int32)), .val (.int (3 : Int32)), .val (.ref b1), .val (.int (0 : Int32))] []))) (st5) ?_
  refine go_of (B := (T5.setTop (mkF m 14 #[.val (.ref s'), .val (.int (1 : Int32)), .val (.int (3 : Int32)), .val (.ref b1), .val (.int (1 : Int32))] []))) (fun _ kk => XS.iinc X5.here hx rfl (hb hby d18_23) rfl rfl (XS.iinc X5.here hx rfl (hb hby d18_26) rfl rfl (XS.goto X5.here hx rfl (pc0 := 29) (pc' := 8) rfl (hb hby d18_29) (by decide) (by decide) (XS.iload X5.here hx rfl (hb hby d18_8) rfl (XS.iloadN X5.here hx rfl (hb hby d18_10) rfl (XS.icmpNo X5.here hx rfl (hb hby d18_11) rfl (tlt (by decide : (1 : Int32) < (3 : Int32))).2.1 kk)))))) ?_
  refine go_of (B := (T5.setTop (mkF m 19 #[.val (.ref s'), .val (.int (1 : Int32)), .val (.int (3 : Int32)), .val (.ref b1), .val (.int (1 : Int32))] [(.int (1 : Int32)), (.ref s'), (.int (1 : Int32)), (.ref b1)]))) (fun _ kk => XS.aloadN X5.here hx rfl (hb hby d18_14) rfl rfl (XS.iload X5.here hx rfl (hb hby d18_15) rfl (XS.aloadN X5.here hx rfl (hb hby d18_17) rfl rfl (XS.iloadN X5.here hx rfl (hb hby d18_18) rfl kk)))) ?_
  have cf_6 := (cf_2.keep K5 (ninS (by first | omega | exact own_ne (by omega) | exact own_le (by omega) | exact own_lt (by omega)) nin0))
  obtain ⟨cl7, Ar7, q7, Sz7, Nn7, Hh7, G7⟩ := id (cf_6)
  refine go_of (B := (T5.setTop (mkF m 20 #[.val (.ref s'), .val (.int (1 : Int32)), .val (.int (3 : Int32)), .val (.ref b1), .val (.int (1 : Int32))] [(.int c1), (.int (1 : Int32)), (.ref b1)]))) (fun _ kk => X5.caload hx (j := (1 : Int32)) (v := (.int c1)) (by exact Ar7.1) (State.isArrayOf_alike hZ.alike Ar7.2.1) Ar7.2.2 (inb_of Sz7 ⟨by decide, by decide⟩) (Hh7.at (inb_of Sz7 ⟨by decide, by decide⟩) rfl) (g := (mkF m 19 #[.val (.ref s'), .val (.int (1 : Int32)), .val (.int (3 : Int32)), .val (.ref b1), .val (.int (1 : Int32))] [(.int (1 : Int32)), (.ref s'), (.int (1 : Int32)), (.ref b1)])) rfl rfl (hb hby d18_19) _ kk) ?_
  have cf_8 := (cf_4.keep K5 (allS (by first | omega | exact own_ne (by omega) | exact own_le (by omega) | exact own_lt (by omega)) all0))
  obtain ⟨_, _, ⟨T9, L9, k9, n9⟩, -, X9, ⟨Lc9, hQ9, l9, y9, z9⟩, st9⟩ := Jvm.LawKit.callS X5 hx (y := MN17) hown (mvT hZ (wd 92 rfl)) (mvT hZ (wd 93 rfl)) (mvT hZ (wd 39 rfl)) (mvT hZ (wd 94 rfl)) (by decide) (backOf (W := 0) (u_put l Z a0 hw [] b1 (1 : Int32) c1 (6 : Int32) _ 2 3 k1 T5.heap n0 (by first | omega | exact own_ne (by omega) | exact own_le (by omega) | exact own_lt (by omega)) cf_8 SU V5 (by first | omega | exact own_ne (by omega) | exact own_le (by omega) | exact own_lt (by omega)) (by decide) (by decide) rfl rfl (Nat.le_of_ble_eq_true rfl) (Nat.le_of_ble_eq_true rfl)) hZ (wd 94 rfl) (wd 39 rfl) (by decide) (by decide)) (g := (mkF m 20 #[.val (.ref s'), .val (.int (1 : Int32)), .val (.int (3 : Int32)), .val (.ref b1), .val (.int (1 : Int32))] [(.int c1), (.int (1 : Int32)), (.ref b1)])) rfl (by rw [hml]; rfl) (argsL := [(.ref b1), (.int (1 : Int32)), (.int c1)]) (rest := []) (lenOf pd___BII_V rfl) rfl (by show 2 * 0 + _ ≤ _; exact Nat.le_of_eq rfl) (hb hby d18_20) (fun _ _ => ⟨rfl, rfl, (by decide : 1 + 0 ≤ _), (by decide : 6 + 0 ≤ _)⟩)
  dsimp only [Pt.U, Pt.locs, Pt.cells, Pt.slots] at X9 l9 y9 z9 st9 hQ9
  subst l9 y9 z9
  obtain ⟨rfl, N9q, K9, V9⟩ := hQ9
  have N9 := Fr.app N5 N9q
  have sz9 := K9.1
  refine go_of (B := (T9.setTop (mkF m 23 #[.val (.ref s'), .val (.int (1 : Int32)), .val (.int (3 : Int32)), .val (.ref b1), .val (.int (1 : Int32))] []))) (st9) ?_
  refine go_of (B := (T9.setTop (mkF m 14 #[.val (.ref s'), .val (.int (2 : Int32)), .val (.int (3 : Int32)), .val (.ref b1), .val (.int (2 : Int32))] []))) (fun _ kk => XS.iinc X9.here hx rfl (hb hby d18_23) rfl rfl (XS.iinc X9.here hx rfl (hb hby d18_26) rfl rfl (XS.goto X9.here hx rfl (pc0 := 29) (pc' := 8) rfl (hb hby d18_29) (by decide) (by decide) (XS.iload X9.here hx rfl (hb hby d18_8) rfl (XS.iloadN X9.here hx rfl (hb hby d18_10) rfl (XS.icmpNo X9.here hx rfl (hb hby d18_11) rfl (tlt (by decide : (2 : Int32) < (3 : Int32))).2.1 kk)))))) ?_
  refine go_of (B := (T9.setTop (mkF m 19 #[.val (.ref s'), .val (.int (2 : Int32)), .val (.int (3 : Int32)), .val (.ref b1), .val (.int (2 : Int32))] [(.int (2 : Int32)), (.ref s'), (.int (2 : Int32)), (.ref b1)]))) (fun _ kk => XS.aloadN X9.here hx rfl (hb hby d18_14) rfl rfl (XS.iload X9.here hx rfl (hb hby d18_15) rfl (XS.aloadN X9.here hx rfl (hb hby d18_17) rfl rfl (XS.iloadN X9.here hx rfl (hb hby d18_18) rfl kk)))) ?_
  have cf_10 := (cf_6.keep K9 (ninS (by first | omega | exact own_ne (by omega) | exact own_le (by omega) | exact own_lt (by omega)) nin0))
  obtain ⟨cl11, Ar11, q11, Sz11, Nn11, Hh11, G11⟩ := id (cf_10)
  refine go_of (B := (T9.setTop (mkF m 20 #[.val (.ref s'), .val (.int (2 : Int32)), .val (.int (3 : Int32)), .val (.ref b1), .val (.int (2 : Int32))] [(.int c2), (.int (2 : Int32)), (.ref b1)]))) (fun _ kk => X9.caload hx (j := (2 : Int32)) (v := (.int c2)) (by exact Ar11.1) (State.isArrayOf_alike hZ.alike Ar11.2.1) Ar11.2.2 (inb_of Sz11 ⟨by decide, by decide⟩) (Hh11.at (inb_of Sz11 ⟨by decide, by decide⟩) rfl) (g := (mkF m 19 #[.val (.ref s'), .val (.int (2 : Int32)), .val (.int (3 : Int32)), .val (.ref b1), .val (.int (2 : Int32))] [(.int (2 : Int32)), (.ref s'), (.int (2 : Int32)), (.ref b1)])) rfl rfl (hb hby d18_19) _ kk) ?_
  have cf_12 := (cf_8.keep K9 (allS (by first | omega | exact own_ne (by omega) | exact own_le (by omega) | exact own_lt (by omega)) all0))
  obtain ⟨_, _, ⟨T13, L13, k13, n13⟩, -, X13, ⟨Lc13, hQ13, l13, y13, z13⟩, st13⟩ := Jvm.LawKit.callS X9 hx (y := MN17) hown (mvT hZ (wd 92 rfl)) (mvT hZ (wd 93 rfl)) (mvT hZ (wd 39 rfl)) (mvT hZ (wd 94 rfl)) (by decide) (backOf (W := 0) (u_put l Z a0 hw [] b1 (2 : Int32) c2 (6 : Int32) _ 4 5 k1 T9.heap n0 (by first | omega | exact own_ne (by omega) | exact own_le (by omega) | exact own_lt (by omega)) cf_12 SU V9 (by first | omega | exact own_ne (by omega) | exact own_le (by omega) | exact own_lt (by omega)) (by decide) (by decide) rfl rfl (Nat.le_of_ble_eq_true rfl) (Nat.le_of_ble_eq_true rfl)) hZ (wd 94 rfl) (wd 39 rfl) (by decide) (by decide)) (g := (mkF m 20 #[.val (.ref s'), .val (.int (2 : Int32)), .val (.int (3 : Int32)), .val (.ref b1), .val (.int (2 : Int32))] [(.int c2), (.int (2 : Int32)), (.ref b1)])) rfl (by rw [hml]; rfl) (argsL := [(.ref b1), (.int (2 : Int32)), (.int c2)]) (rest := []) (lenOf pd___BII_V rfl) rfl (by show 2 * 0 + _ ≤ _; exact Nat.le_of_eq rfl) (hb hby d18_20) (fun _ _ => ⟨rfl, rfl, (by decide : 1 + 0 ≤ _), (by decide : 6 + 0 ≤ _)⟩)
  dsimp only [Pt.U, Pt.locs, Pt.cells, Pt.slots] at X13 l13 y13 z13 st13 hQ13
  subst l13 y13 z13
  obtain ⟨rfl, N13q, K13, V13⟩ := hQ13
  have N13 := Fr.app N9 N13q
  have sz13 := K13.1
  refine go_of (B := (T13.setTop (mkF m 23 #[.val (.ref s'), .val (.int (2 : Int32)), .val (.int (3 : Int32)), .val (.ref b1), .val (.int (2 : Int32))] []))) (st13) ?_
  refine go_of (B := (T13.setTop (mkF m 32 #[.val (.ref s'), .val (.int (3 : Int32)), .val (.int (3 : Int32)), .val (.ref b1), .val (.int (3 : Int32))] []))) (fun _ kk => XS.iinc X13.here hx rfl (hb hby d18_23) rfl rfl (XS.iinc X13.here hx rfl (hb hby d18_26) rfl rfl (XS.goto X13.here hx rfl (pc0 := 29) (pc' := 8) rfl (hb hby d18_29) (by decide) (by decide) (XS.iload X13.here hx rfl (hb hby d18_8) rfl (XS.iloadN X13.here hx rfl (hb hby d18_10) rfl (XS.icmpYes X13.here hx rfl (pc0 := 11) (pc' := 32) rfl (hb hby d18_11) rfl (flt (by decide : ¬ ((3 : Int32) < (3 : Int32)))).2.1 (by decide) (by decide) kk)))))) ?_
  refine go_of (B := (T13.setTop (mkF m 33 #[.val (.ref s'), .val (.int (3 : Int32)), .val (.int (3 : Int32)), .val (.ref b1), .val (.int (3 : Int32))] [(.ref b1)]))) (fun _ kk => XS.aloadN X13.here hx rfl (hb hby d18_32) rfl rfl kk) ?_
  refine go_end X13 (v := some (.ref b1)) (fun h => by rw [Bd.returns] at h; cases h) Bd.notSynchronized (by decide) (by decide) (Q := (Q_u_tob_3 Z s' c0 c1 c2 ks h0 n0)) ?_ (fun fs hr => own_retA X13 hx Bd.returns rfl rfl (hb hby d18_33) hr)
  unfold Q_u_tob_3
  exact ⟨b1, k1, rfl, N13, by omega, (((((Keep.refl h0 []).trans K1 all0).trans K5 (allS (Or.inr (by first | omega | exact own_ne (by omega) | exact own_le (by omega) | exact own_lt (by omega))) all0)).trans K9 (allS (Or.inr (by first | omega | exact own_ne (by omega) | exact own_le (by omega) | exact own_lt (by omega))) all0)).trans K13 (allS (Or.inr (by first | omega | exact own_ne (by omega) | exact own_le (by omega) | exact own_lt (by omega))) all0)), V13⟩
def Q_u_c3_3 (Z : State) (s' : Addr) (c0 : Int32) (c1 : Int32) (c2 : Int32) (ks : ClassId) (h0 : Heap) (n0 : Nat) (v : Option Value) (h : Heap) (L : List Loc) : Prop := ∃ (t : Addr) (k : ClassId), v = some (.ref t) ∧ Fr n0 L ∧ h0.size ≤ t ∧ Keep h0 h [] ∧ ((¬ (255 : Int32) < c0 ∧ ¬ (255 : Int32) < c1 ∧ ¬ (255 : Int32) < c2 ∧ Arv Z h t k .byte 3 [(.int (own_b8 c0)), (.int (own_b8 c1)), (.int (own_b8 c2))] (.int 0)) ∨ Arv Z h t k .byte 6 [(.int (own_b0 c0)), (.int (own_b1 c0)), (.int (own_b0 c1)), (.int (own_b1 c1)), (.int (own_b0 c2)), (.int (own_b1 c2))] (.int 0))
theorem ef_u_c3_3 (m : MethodId) (s' : Addr)  : entryFrame m #[(.ref s'), (.int (0 : Int32)), (.int (3 : Int32))] 6 = mkF m 0 #[.val (.ref s'), .val (.int (0 : Int32)), .val (.int (3 : Int32)), .unset, .unset, .unset] [] := by first | (simp [entryFrame, mkF, argsToLocals, Value.category]; done) | rfl
theorem u_c3_3 (l : Launch) (Z : State) (a0 : Array Value) (hw : TW a0 Z) (ws : List Jvm.Cond) (s' : Addr) (c0 : Int32) (c1 : Int32) (c2 : Int32) (ks : ClassId) (h0 : Heap) (n0 : Nat) (Z0 : n0 ≤ h0.size) (O : Old Z n0 h0) (SU : US Z) (Vs : Arv Z h0 s' ks .char 3 [(.int c0), (.int c1), (.int c2)] (.int 0)) (hc0 : ¬ c0 < 0 ∧ ¬ (65535 : Int32) < c0) (hc1 : ¬ c1 < 0 ∧ ¬ (65535 : Int32) < c1) (hc2 : ¬ c2 < 0 ∧ ¬ (65535 : Int32) < c2) :
    own_MF l Z MN12 jdk_52_method_16_code 6 (some (.array .byte)) ws (own_R 3 2 9 40) #[(.ref s'), (.int (0 : Int32)), (.int (3 : Int32))] h0 (Q_u_c3_3 Z s' c0 c1 c2 ks h0 n0) := by
  have wd := @own_wd _ _ hw
  refine MetFree.of_bodySF (plainFor_of_name pn_java_lang_StringUTF16) hisR ?_
  intro p e s m args below meth c s₁ Bd hml0 hP hK
  obtain ⟨rfl, hZ, hh⟩ := hP
  have hx := Bd.exec
  have hby := Bd.bytes
  have hml : c.maxLocals = 6 := hml0
  have hown : s.vm.findClass "java/lang/StringUTF16" = some m.cls := findClass_of_methodNamed Bd.named
  have hnm := (name_of_methodNamed Bd.named Bd.method).1
  have X0 : Stand p l e (own_R 3 2 9 40) s m #[(.ref s'), (.int (0 : Int32)), (.int (3 : Int32))] below meth c s₁ [] 0 0 := Stand.of_body Bd
  have e0 : s₁.heap = h0 := by rw [← hh, Bd.state]; rfl
  have N0 := Fr.nil n0
  have lts := own_nlt (Vs.lt)
  refine go_of (A := s₁.setTop (entryFrame m #[(.ref s'), (.int (0 : Int32)), (.int (3 : Int32))] 6)) (B := s₁.setTop (mkF m 0 #[.val (.ref s'), .val (.int (0 : Int32)), .val (.int (3 : Int32)), .unset, .unset, .unset] [])) (fun _ kk' => castTop (ef_u_c3_3 m s') kk') ?_
  refine go_of (B := (s₁.setTop (mkF m 1 #[.val (.ref s'), .val (.int (0 : Int32)), .val (.int (3 : Int32)), .unset, .unset, .unset] [(.int (3 : Int32))]))) (fun _ kk => XS.iloadN X0.here hx rfl (hb hby d7_0) rfl kk) ?_
  obtain ⟨T1, h1, k1, X1, e1, E1, A1, st1⟩ := newP X0 hx hZ (wd 20 rfl) e0 (g := (mkF m 1 #[.val (.ref s'), .val (.int (0 : Int32)), .val (.int (3 : Int32)), .unset, .unset, .unset] [(.int (3 : Int32))])) rfl (hb hby d7_1) rfl (by decide) (cap := 3) (by decide) (by decide) (by decide) (by decide)
  obtain ⟨b1, g1⟩ : ∃ z, z = h0.size := ⟨_, rfl⟩
  rw [← g1] at A1 st1
  have hi1 := own_nlt A1.lt
  have sz1 := E1.1
  have V1 : Arv Z h1 b1 k1 .byte (3 : Int32) [(.int (0 : Int32)), (.int (0 : Int32)), (.int (0 : Int32))] (.int (0 : Int32)) := (Arv.new A1 (by decide)).pad (pad_rep [] (.int (0 : Int32)) 3)
  refine go_of (B := (T1.setTop (mkF m 3 #[.val (.ref s'), .val (.int (0 : Int32)), .val (.int (3 : Int32)), .unset, .unset, .unset] [(.ref b1)]))) (st1) ?_
  refine go_of (B := (T1.setTop (mkF m 9 #[.val (.ref s'), .val (.int (0 : Int32)), .val (.int (3 : Int32)), .val (.ref b1), .unset, .unset] [(.int (3 : Int32)), (.int (0 : Int32)), (.ref b1), (.int (0 : Int32)), (.ref s')]))) (fun _ kk => XS.astoreN X1.here hx rfl (hb hby d7_3) rfl rfl rfl (XS.aloadN X1.here hx rfl (hb hby d7_4) rfl rfl (XS.iloadN X1.here hx rfl (hb hby d7_5) rfl (XS.aloadN X1.here hx rfl (hb hby d7_6) rfl rfl (XS.iconst X1.here hx rfl (hb hby d7_7) (XS.iloadN X1.here hx rfl (hb hby d7_8) rfl kk)))))) ?_
  have cf_2 := (Vs.ext E1)
  obtain ⟨_, _, ⟨T3, L3, k3, n3⟩, -, X3, ⟨Lc3, hQ3, l3, y3, z3⟩, st3⟩ := Jvm.LawKit.callS X1 hx (y := MN13) hown (mvT hZ (wd 41 rfl)) (mvT hZ (wd 42 rfl)) (mvT hZ (wd 39 rfl)) (mvT hZ (wd 43 rfl)) (by decide) (backOf (W := 0) (u_c5_3 l Z a0 hw [] s' b1 c0 c1 c2 ks k1 h1 n0 (by first | omega | exact own_ne (by omega) | exact own_le (by omega) | exact own_lt (by omega)) cf_2 V1 (by first | omega | exact own_ne (by omega) | exact own_le (by omega) | exact own_lt (by omega)) (by first | omega | exact own_ne (by omega) | exact own_le (by omega) | exact own_lt (by omega))) hZ (wd 43 rfl) (wd 39 rfl) (by decide) (by decide)) (g := (mkF m 9 #[.val (.ref s'), .val (.int (0 : Int32)), .val (.int (3 : Int32)), .val (.ref b1), .unset, .unset] [(.int (3 : Int32)), (.int (0 : Int32)), (.ref b1), (.int (0 : Int32)), (.ref s')])) rfl (by rw [hml]; rfl) (argsL := [(.ref s'), (.int (0 : Int32)), (.ref b1), (.int (0 : Int32)), (.int (3 : Int32))]) (rest := []) (lenOf pd___CI_BII_I rfl) rfl (by show 2 * 0 + _ ≤ _; exact Nat.le_of_eq rfl) (hb hby d7_9) (fun _ _ => ⟨rfl, e1, (by decide : 1 + 0 ≤ _), (by decide : 3 + 0 ≤ _)⟩)
  dsimp only [Pt.U, Pt.locs, Pt.cells, Pt.slots] at X3 l3 y3 z3 st3 hQ3
  subst l3 y3 z3
  obtain ⟨r3, rfl, N3q, K3, H3⟩ := hQ3
  have N3 := Fr.app N0 N3q
  have sz3 := K3.1
  refine go_of (B := (T3.setTop (mkF m 12 #[.val (.ref s'), .val (.int (0 : Int32)), .val (.int (3 : Int32)), .val (.ref b1), .unset, .unset] [(.int r3)]))) (st3) ?_
  rcases H3 with ⟨rfl, hl0, hl1, hl2, V3⟩ | ⟨rfl, hg⟩ | ⟨rfl, hg⟩ | ⟨rfl, hg⟩
  · refine go_of (B := (T3.setTop (mkF m 58 #[.val (.ref s'), .val (.int (0 : Int32)), .val (.int (3 : Int32)), .val (.ref b1), .val (.int (3 : Int32)), .unset] [(.ref b1)]))) (fun _ kk => XS.istore X3.here hx rfl (hb hby d7_12) rfl rfl (XS.iload X3.here hx rfl (hb hby d7_14) rfl (XS.iloadN X3.here hx rfl (hb hby d7_16) rfl (XS.icmpYes X3.here hx rfl (pc0 := 17) (pc' := 57) rfl (hb hby d7_17) rfl (teq (by decide : (3 : Int32) = (3 : Int32))).1 (by decide) (by decide) (XS.aloadN X3.here hx rfl (hb hby d7_57) rfl rfl kk))))) ?_
    refine go_end X3 (v := some (.ref b1)) (fun h => by rw [Bd.returns] at h; cases h) Bd.notSynchronized (by decide) (by decide) (Q := (Q_u_c3_3 Z s' c0 c1 c2 ks h0 n0)) ?_ (fun fs hr => own_retA X3 hx Bd.returns rfl rfl (hb hby d7_58) hr)
    unfold Q_u_c3_3
    exact ⟨b1, k1, rfl, N3, by omega, (((Keep.refl h0 []).ext E1).trans K3 (allS (Or.inr (by first | omega | exact own_ne (by omega) | exact own_le (by omega) | exact own_lt (by omega))) all0)), Or.inl ⟨hl0, hl1, hl2, V3⟩⟩
  · refine go_of (B := (T3.setTop (mkF m 22 #[.val (.ref s'), .val (.int (0 : Int32)), .val (.int (3 : Int32)), .val (.ref b1), .val (.int (0 : Int32)), .unset] [(.int (0 : Int32)), (.ref s')]))) (fun _ kk => XS.istore X3.here hx rfl (hb hby d7_12) rfl rfl (XS.iload X3.here hx rfl (hb hby d7_14) rfl (XS.iloadN X3.here hx rfl (hb hby d7_16) rfl (XS.icmpNo X3.here hx rfl (hb hby d7_17) rfl (feq (by decide : ¬ ((0 : Int32) = (3 : Int32)))).1 (XS.aloadN X3.here hx rfl (hb hby d7_20) rfl rfl (XS.iloadN X3.here hx rfl (hb hby d7_21) rfl kk)))))) ?_
    refine go_of (B := (T3.setTop (mkF m 23 #[.val (.ref s'), .val (.int (0 : Int32)), .val (.int (3 : Int32)), .val (.ref b1), .val (.int (0 : Int32)), .unset] [(.int (3 : Int32)), (.int (0 : Int32)), (.ref s')]))) (fun _ kk => XS.iloadN X3.here hx rfl (hb hby d7_22) rfl kk) ?_
    have cf_4 := ((O.ext E1).keep K3 (allS (by first | omega | exact own_ne (by omega) | exact own_le (by omega) | exact own_lt (by omega)) all0))
    have cf_5 := (cf_2.keep K3 (ninS (by first | omega | exact own_ne (by omega) | exact own_le (by omega) | exact own_lt (by omega)) nin0))
    obtain ⟨_, _, ⟨T6, L6, k6, n6⟩, -, X6, ⟨Lc6, hQ6, l6, y6, z6⟩, st6⟩ := Jvm.LawKit.callS X3 hx (y := MN18) hown (mvT hZ (wd 82 rfl)) (mvT hZ (wd 83 rfl)) (mvT hZ (wd 39 rfl)) (mvT hZ (wd 84 rfl)) (by decide) (backOf (W := 0) (u_tob_3 l Z a0 hw [] s' c0 c1 c2 ks T3.heap n0 (by first | omega | exact own_ne (by omega) | exact own_le (by omega) | exact own_lt (by omega)) cf_4 SU cf_5) hZ (wd 84 rfl) (wd 39 rfl) (by decide) (by decide)) (g := (mkF m 23 #[.val (.ref s'), .val (.int (0 : Int32)), .val (.int (3 : Int32)), .val (.ref b1), .val (.int (0 : Int32)), .unset] [(.int (3 : Int32)), (.int (0 : Int32)), (.ref s')])) rfl (by rw [hml]; rfl) (argsL := [(.ref s'), (.int (0 : Int32)), (.int (3 : Int32))]) (rest := []) (lenOf pd___CII__B rfl) rfl (by show 2 * 0 + _ ≤ _; exact Nat.le_of_eq rfl) (hb hby d7_23) (fun _ _ => ⟨rfl, rfl, (by decide : 1 + 1 ≤ _), (by decide : 3 + 6 ≤ _)⟩)
    dsimp only [Pt.U, Pt.locs, Pt.cells, Pt.slots] at X6 l6 y6 z6 st6 hQ6
    subst l6 y6 z6
    obtain ⟨b6, k6, rfl, N6q, lo6, K6, V6⟩ := hQ6
    have lo6 := own_nle lo6
    have N6 := Fr.app N3 N6q
    have hi6 := own_nlt (V6.lt)
    have sz6 := K6.1
    refine go_of (B := (T6.setTop (mkF m 26 #[.val (.ref s'), .val (.int (0 : Int32)), .val (.int (3 : Int32)), .val (.ref b1), .val (.int (0 : Int32)), .unset] [(.ref b6)]))) (st6) ?_
    refine go_of (B := (T6.setTop (mkF m 32 #[.val (.ref s'), .val (.int (0 : Int32)), .val (.int (3 : Int32)), .val (.ref b1), .val (.int (0 : Int32)), .val (.ref b6)] [(.int (0 : Int32)), (.ref b6)]))) (fun _ kk => XS.astore X6.here hx rfl (hb hby d7_26) rfl rfl rfl (XS.aload X6.here hx rfl (hb hby d7_28) rfl rfl (XS.iload X6.here hx rfl (hb hby d7_30) rfl kk))) ?_
    have cf_7 := (cf_4.keep K6 all0)
    obtain ⟨_, _, ⟨T8, L8, k8, n8⟩, -, X8, ⟨Lc8, hQ8, l8, y8, z8⟩, st8⟩ := Jvm.LawKit.callS X6 hx (y := MN14) hown (mvT hZ (wd 98 rfl)) (mvT hZ (wd 99 rfl)) (mvT hZ (wd 39 rfl)) (mvT hZ (wd 100 rfl)) (by decide) (backOf (W := 0) (u_get l Z a0 hw [] b6 (0 : Int32) (6 : Int32) _ c0 k6 T6.heap n0 (by first | omega | exact own_ne (by omega) | exact own_le (by omega) | exact own_lt (by omega)) cf_7 SU V6 (by decide) (by decide) rfl rfl hc0) hZ (wd 100 rfl) (wd 39 rfl) (by decide) (by decide)) (g := (mkF m 32 #[.val (.ref s'), .val (.int (0 : Int32)), .val (.int (3 : Int32)), .val (.ref b1), .val (.int (0 : Int32)), .val (.ref b6)] [(.int (0 : Int32)), (.ref b6)])) rfl (by rw [hml]; rfl) (argsL := [(.ref b6), (.int (0 : Int32))]) (rest := []) (lenOf pd___BI_C rfl) rfl (by show 2 * 0 + _ ≤ _; exact Nat.le_of_eq rfl) (hb hby d7_32) (fun _ _ => ⟨rfl, rfl, (by decide : 2 + 0 ≤ _), (by decide : 9 + 0 ≤ _)⟩)
    dsimp only [Pt.U, Pt.locs, Pt.cells, Pt.slots] at X8 l8 y8 z8 st8 hQ8
    subst l8 y8 z8
    obtain ⟨rfl, N8q, e8⟩ := hQ8
    have N8 := Fr.app N6 N8q
    refine go_of (B := (T8.setTop (mkF m 35 #[.val (.ref s'), .val (.int (0 : Int32)), .val (.int (3 : Int32)), .val (.ref b1), .val (.int (0 : Int32)), .val (.ref b6)] [(.int c0)]))) (st8) ?_
    refine go_of (B := (T8.setTop (mkF m 56 #[.val (.ref s'), .val (.int (0 : Int32)), .val (.int (3 : Int32)), .val (.ref b1), .val (.int (0 : Int32)), .val (.ref b6)] [(.ref b6)]))) (fun _ kk => XS.sipush X8.here hx rfl (hb hby d7_35) (XS.icmpYes X8.here hx rfl (pc0 := 38) (pc' := 54) rfl (hb hby d7_38) rfl (tlt hg).2.2.1 (by decide) (by decide) (XS.aload X8.here hx rfl (hb hby d7_54) rfl rfl kk))) ?_
    refine go_end X8 (v := some (.ref b6)) (fun h => by rw [Bd.returns] at h; cases h) Bd.notSynchronized (by decide) (by decide) (Q := (Q_u_c3_3 Z s' c0 c1 c2 ks h0 n0)) ?_ (fun fs hr => own_retA X8 hx Bd.returns rfl rfl (hb hby d7_56) hr)
    unfold Q_u_c3_3
    try rw [e8]
    exact ⟨b6, k6, rfl, N8, by omega, ((((Keep.refl h0 []).ext E1).trans K3 (allS (Or.inr (by first | omega | exact own_ne (by omega) | exact own_le (by omega) | exact own_lt (by omega))) all0)).trans K6 all0), Or.inr V6⟩
  · refine go_of (B := (T3.setTop (mkF m 22 #[.val (.ref s'), .val (.int (0 : Int32)), .val (.int (3 : Int32)), .val (.ref b1), .val (.int (1 : Int32)), .unset] [(.int (0 : Int32)), (.ref s')]))) (fun _ kk => XS.istore X3.here hx rfl (hb hby d7_12) rfl rfl (XS.iload X3.here hx rfl (hb hby d7_14) rfl (XS.iloadN X3.here hx rfl (hb hby d7_16) rfl (XS.icmpNo X3.here hx rfl (hb hby d7_17) rfl (feq (by decide : ¬ ((1 : Int32) = (3 : Int32)))).1 (XS.aloadN X3.here hx rfl (hb hby d7_20) rfl rfl (XS.iloadN X3.here hx rfl (hb hby d7_21) rfl kk)))))) ?_
    refine go_of (B := (T3.setTop (mkF m 23 #[.val (.ref s'), .val (.int (0 : Int32)), .val (.int (3 : Int32)), .val (.ref b1), .val (.int (1 : Int32)), .unset] [(.int (3 : Int32)), (.int (0 : Int32)), (.ref s')]))) (fun _ kk => XS.iloadN X3.here hx rfl (hb hby d7_22) rfl kk) ?_
    have cf_9 := ((O.ext E1).keep K3 (allS (by first | omega | exact own_ne (by omega) | exact own_le (by omega) | exact own_lt (by omega)) all0))
    have cf_10 := (cf_2.keep K3 (ninS (by first | omega | exact own_ne (by omega) | exact own_le (by omega) | exact own_lt (by omega)) nin0))
    obtain ⟨_, _, ⟨T11, L11, k11, n11⟩, -, X11, ⟨Lc11, hQ11, l11, y11, z11⟩, st11⟩ := Jvm.LawKit.callS X3 hx (y := MN18) hown (mvT hZ (wd 82 rfl)) (mvT hZ (wd 83 rfl)) (mvT hZ (wd 39 rfl)) (mvT hZ (wd 84 rfl)) (by decide) (backOf (W := 0) (u_tob_3 l Z a0 hw [] s' c0 c1 c2 ks T3.heap n0 (by first | omega | exact own_ne (by omega) | exact own_le (by omega) | exact own_lt (by omega)) cf_9 SU cf_10) hZ (wd 84 rfl) (wd 39 rfl) (by decide) (by decide)) (g := (mkF m 23 #[.val (.ref s'), .val (.int (0 : Int32)), .val (.int (3 : Int32)), .val (.ref b1), .val (.int (1 : Int32)), .unset] [(.int (3 : Int32)), (.int (0 : Int32)), (.ref s')])) rfl (by rw [hml]; rfl) (argsL := [(.ref s'), (.int (0 : Int32)), (.int (3 : Int32))]) (rest := []) (lenOf pd___CII__B rfl) rfl (by show 2 * 0 + _ ≤ _; exact Nat.le_of_eq rfl) (hb hby d7_23) (fun _ _ => ⟨rfl, rfl, (by decide : 1 + 1 ≤ _), (by decide : 3 + 6 ≤ _)⟩)
    dsimp only [Pt.U, Pt.locs, Pt.cells, Pt.slots] at X11 l11 y11 z11 st11 hQ11
    subst l11 y11 z11
    obtain ⟨b11, k11, rfl, N11q, lo11, K11, V11⟩ := hQ11
    have lo11 := own_nle lo11
    have N11 := Fr.app N3 N11q
    have hi11 := own_nlt (V11.lt)
    have sz11 := K11.1
    refine go_of (B := (T11.setTop (mkF m 26 #[.val (.ref s'), .val (.int (0 : Int32)), .val (.int (3 : Int32)), .val (.ref b1), .val (.int (1 : Int32)), .unset] [(.ref b11)]))) (st11) ?_
    refine go_of (B := (T11.setTop (mkF m 32 #[.val (.ref s'), .val (.int (0 : Int32)), .val (.int (3 : Int32)), .val (.ref b1), .val (.int (1 : Int32)), .val (.ref b11)] [(.int (1 : Int32)), (.ref b11)]))) (fun _ kk => XS.astore X11.here hx rfl (hb hby d7_26) rfl rfl rfl (XS.aload X11.here hx rfl (hb hby d7_28) rfl rfl (XS.iload X11.here hx rfl (hb hby d7_30) rfl kk))) ?_
    have cf_12 := (cf_9.keep K11 all0)
    obtain ⟨_, _, ⟨T13, L13, k13, n13⟩, -, X13, ⟨Lc13, hQ13, l13, y13, z13⟩, st13⟩ := Jvm.LawKit.callS X11 hx (y := MN14) hown (mvT hZ (wd 98 rfl)) (mvT hZ (wd 99 rfl)) (mvT hZ (wd 39 rfl)) (mvT hZ (wd 100 rfl)) (by decide) (backOf (W := 0) (u_get l Z a0 hw [] b11 (1 : Int32) (6 : Int32) _ c1 k11 T11.heap n0 (by first | omega | exact own_ne (by omega) | exact own_le (by omega) | exact own_lt (by omega)) cf_12 SU V11 (by decide) (by decide) rfl rfl hc1) hZ (wd 100 rfl) (wd 39 rfl) (by decide) (by decide)) (g := (mkF m 32 #[.val (.ref s'), .val (.int (0 : Int32)), .val (.int (3 : Int32)), .val (.ref b1), .val (.int (1 : Int32)), .val (.ref b11)] [(.int (1 : Int32)), (.ref b11)])) rfl (by rw [hml]; rfl) (argsL := [(.ref b11), (.int (1 : Int32))]) (rest := []) (lenOf pd___BI_C rfl) rfl (by show 2 * 0 + _ ≤ _; exact Nat.le_of_eq rfl) (hb hby d7_32) (fun _ _ => ⟨rfl, rfl, (by decide : 2 + 0 ≤ _), (by decide : 9 + 0 ≤ _)⟩)
    dsimp only [Pt.U, Pt.locs, Pt.cells, Pt.slots] at X13 l13 y13 z13 st13 hQ13
    subst l13 y13 z13
    obtain ⟨rfl, N13q, e13⟩ := hQ13
    have N13 := Fr.app N11 N13q
    refine go_of (B := (T13.setTop (mkF m 35 #[.val (.ref s'), .val (.int (0 : Int32)), .val (.int (3 : Int32)), .val (.ref b1), .val (.int (1 : Int32)), .val (.ref b11)] [(.int c1)]))) (st13) ?_
    refine go_of (B := (T13.setTop (mkF m 56 #[.val (.ref s'), .val (.int (0 : Int32)), .val (.int (3 : Int32)), .val (.ref b1), .val (.int (1 : Int32)), .val (.ref b11)] [(.ref b11)]))) (fun _ kk => XS.sipush X13.here hx rfl (hb hby d7_35) (XS.icmpYes X13.here hx rfl (pc0 := 38) (pc' := 54) rfl (hb hby d7_38) rfl (tlt hg).2.2.1 (by decide) (by decide) (XS.aload X13.here hx rfl (hb hby d7_54) rfl rfl kk))) ?_
    refine go_end X13 (v := some (.ref b11)) (fun h => by rw [Bd.returns] at h; cases h) Bd.notSynchronized (by decide) (by decide) (Q := (Q_u_c3_3 Z s' c0 c1 c2 ks h0 n0)) ?_ (fun fs hr => own_retA X13 hx Bd.returns rfl rfl (hb hby d7_56) hr)
    unfold Q_u_c3_3
    try rw [e13]
    exact ⟨b11, k11, rfl, N13, by omega, ((((Keep.refl h0 []).ext E1).trans K3 (allS (Or.inr (by first | omega | exact own_ne (by omega) | exact own_le (by omega) | exact own_lt (by omega))) all0)).trans K11 all0), Or.inr V11⟩
  · refine go_of (B := (T3.setTop (mkF m 22 #[.val (.ref s'), .val (.int (0 : Int32)), .val (.int (3 : Int32)), .val (.ref b1), .val (.int (2 : Int32)), .unset] [(.int (0 : Int32)), (.ref s')]))) (fun _ kk => XS.istore X3.here hx rfl (hb hby d7_12) rfl rfl (XS.iload X3.here hx rfl (hb hby d7_14) rfl (XS.iloadN X3.here hx rfl (hb hby d7_16) rfl (XS.icmpNo X3.here hx rfl (hb hby d7_17) rfl (feq (by decide : ¬ ((2 : Int32) = (3 : Int32)))).1 (XS.aloadN X3.here hx rfl (hb hby d7_20) rfl rfl (XS.iloadN X3.here hx rfl (hb hby d7_21) rfl kk)))))) ?_
    refine go_of (B := (T3.setTop (mkF m 23 #[.val (.ref s'), .val (.int (0 : Int32)), .val (.int (3 : Int32)), .val (.ref b1), .val (.int (2 : Int32)), .unset] [(.int (3 : Int32)), (.int (0 : Int32)), (.ref s')]))) (fun _ kk => XS.iloadN X3.here hx rfl (hb hby d7_22) rfl kk) ?_
    have cf_14 := ((O.ext E1).keep K3 (allS (by first | omega | exact own_ne (by omega) | exact own_le (by omega) | exact own_lt (by omega)) all0))
    have cf_15 := (cf_2.keep K3 (ninS (by first | omega | exact own_ne (by omega) | exact own_le (by omega) | exact own_lt (by omega)) nin0))
    obtain ⟨_, _, ⟨T16, L16, k16, n16⟩, -, X16, ⟨Lc16, hQ16, l16, y16, z16⟩, st16⟩ := Jvm.LawKit.callS X3 hx (y := MN18) hown (mvT hZ (wd 82 rfl)) (mvT hZ (wd 83 rfl)) (mvT hZ (wd 39 rfl)) (mvT hZ (wd 84 rfl)) (by decide) (backOf (W := 0) (u_tob_3 l Z a0 hw [] s' c0 c1 c2 ks T3.heap n0 (by first | omega | exact own_ne (by omega) | exact own_le (by omega) | exact own_lt (by omega)) cf_14 SU cf_15) hZ (wd 84 rfl) (wd 39 rfl) (by decide) (by decide)) (g := (mkF m 23 #[.val (.ref s'), .val (.int (0 : Int32)), .val (.int (3 : Int32)), .val (.ref b1), .val (.int (2 : Int32)), .unset] [(.int (3 : Int32)), (.int (0 : Int32)), (.ref s')])) rfl (by rw [hml]; rfl) (argsL := [(.ref s'), (.int (0 : Int32)), (.int (3 : Int32))]) (rest := []) (lenOf pd___CII__B rfl) rfl (by show 2 * 0 + _ ≤ _; exact Nat.le_of_eq rfl) (hb hby d7_23) (fun _ _ => ⟨rfl, rfl, (by decide : 1 + 1 ≤ _), (by decide : 3 + 6 ≤ _)⟩)
    dsimp only [Pt.U, Pt.locs, Pt.cells, Pt.slots] at X16 l16 y16 z16 st16 hQ16
    subst l16 y16 z16
    obtain ⟨b16, k16, rfl, N16q, lo16, K16, V16⟩ := hQ16
    have lo16 := own_nle lo16
    have N16 := Fr.app N3 N16q
    have hi16 := own_nlt (V16.lt)
    have sz16 := K16.1
    refine go_of (B := (T16.setTop (mkF m 26 #[.val (.ref s'), .val (.int (0 : Int32)), .val (.int (3 : Int32)), .val (.ref b1), .val (.int (2 : Int32)), .unset] [(.ref b16)]))) (st16) ?_
    refine go_of (B := (T16.setTop (mkF m 32 #[.val (.ref s'), .val (.int (0 : Int32)), .val (.int (3 : Int32)), .val (.ref b1), .val (.int (2 : Int32)), .val (.ref b16)] [(.int (2 : Int32)), (.ref b16)]))) (fun _ kk => XS.astore X16.here hx rfl (hb hby d7_26) rfl rfl rfl (XS.aload X16.here hx rfl (hb hby d7_28) rfl rfl (XS.iload X16.here hx rfl (hb hby d7_30) rfl kk))) ?_
    have cf_17 := (cf_14.keep K16 all0)
    obtain ⟨_, _, ⟨T18, L18, k18, n18⟩, -, X18, ⟨Lc18, hQ18, l18, y18, z18⟩, st18⟩ := Jvm.LawKit.callS X16 hx (y := MN14) hown (mvT hZ (wd 98 rfl)) (mvT hZ (wd 99 rfl)) (mvT hZ (wd 39 rfl)) (mvT hZ (wd 100 rfl)) (by decide) (backOf (W := 0) (u_get l Z a0 hw [] b16 (2 : Int32) (6 : Int32) _ c2 k16 T16.heap n0 (by first | omega | exact own_ne (by omega) | exact own_le (by omega) | exact own_lt (by omega)) cf_17 SU V16 (by decide) (by decide) rfl rfl hc2) hZ (wd 100 rfl) (wd 39 rfl) (by decide) (by decide)) (g := (mkF m 32 #[.val (.ref s'), .val (.int (0 : Int32)), .val (.int (3 : Int32)), .val (.ref b1), .val (.int (2 : Int32)), .val (.ref b16)] [(.int (2 : Int32)), (.ref b16)])) rfl (by rw [hml]; rfl) (argsL := [(.ref b16), (.int (2 : Int32))]) (rest := []) (lenOf pd___BI_C rfl) rfl (by show 2 * 0 + _ ≤ _; exact Nat.le_of_eq rfl) (hb hby d7_32) (fun _ _ => ⟨rfl, rfl, (by decide : 2 + 0 ≤ _), (by decide : 9 + 0 ≤ _)⟩)
    dsimp only [Pt.U, Pt.locs, Pt.cells, Pt.slots] at X18 l18 y18 z18 st18 hQ18
    subst l18 y18 z18
    obtain ⟨rfl, N18q, e18⟩ := hQ18
    have N18 := Fr.app N16 N18q
    refine go_of (B := (T18.setTop (mkF m 35 #[.val (.ref s'), .val (.int (0 : Int32)), .val (.int (3 : Int32)), .val (.ref b1), .val (.int (2 : Int32)), .val (.ref b16)] [(.int c2)]))) (st18) ?_
    refine go_of (B := (T18.setTop (mkF m 56 #[.val (.ref s'), .val (.int (0 : Int32)), .val (.int (3 : Int32)), .val (.ref b1), .val (.int (2 : Int32)), .val (.ref b16)] [(.ref b16)]))) (fun _ kk => XS.sipush X18.here hx rfl (hb hby d7_35) (XS.icmpYes X18.here hx rfl (pc0 := 38) (pc' := 54) rfl (hb hby d7_38) rfl (tlt hg).2.2.1 (by decide) (by decide) (XS.aload X18.here hx rfl (hb hby d7_54) rfl rfl kk))) ?_
    refine go_end X18 (v := some (.ref b16)) (fun h => by rw [Bd.returns] at h; cases h) Bd.notSynchronized (by decide) (by decide) (Q := (Q_u_c3_3 Z s' c0 c1 c2 ks h0 n0)) ?_ (fun fs hr => own_retA X18 hx Bd.returns rfl rfl (hb hby d7_56) hr)
    unfold Q_u_c3_3
    try rw [e18]
    exact ⟨b16, k16, rfl, N18, by omega, ((((Keep.refl h0 []).ext E1).trans K3 (allS (Or.inr (by first | omega | exact own_ne (by omega) | exact own_le (by omega) | exact own_lt (by omega))) all0)).trans K16 all0), Or.inr V16⟩
def Q_str_cf_3 (Z : State) (t : Addr) (k : ClassId) (vs : List Value) (h0 : Heap) (n0 : Nat) (v : Option Value) (h : Heap) (L : List Loc) : Prop := v = some (.int 0) ∧ Fr n0 L ∧ h = h0
theorem ef_str_cf_3 (m : MethodId) (t : Addr)  : entryFrame m #[(.ref t), (.int (3 : Int32))] 2 = mkF m 0 #[.val (.ref t), .val (.int (3 : Int32))] [] := by first | (simp [entryFrame, mkF, argsToLocals, Value.category]; done) | rfl
theorem str_cf_3 (l : Launch) (Z : State) (a0 : Array Value) (hw : TW a0 Z) (ws : List Jvm.Cond) (t : Addr) (k : ClassId) (vs : List Value) (h0 : Heap) (n0 : Nat) (Z0 : n0 ≤ h0.size) (V : Arv Z h0 t k .byte 3 vs (.int 0)) :
    own_MF l Z MN11 jdk_52_method_15_code 2 (some .byte) ws (own_R 0 0 0 0) #[(.ref t), (.int (3 : Int32))] h0 (Q_str_cf_3 Z t k vs h0 n0) := by
  have wd := @own_wd _ _ hw
  refine MetFree.of_bodySF (plainFor_of_name pn_java_lang_StringUTF16) hisR ?_
  intro p e s m args below meth c s₁ Bd hml0 hP hK
  obtain ⟨rfl, hZ, hh⟩ := hP
  have hx := Bd.exec
  have hby := Bd.bytes
  have hml : c.maxLocals = 2 := hml0
  have hown : s.vm.findClass "java/lang/StringUTF16" = some m.cls := findClass_of_methodNamed Bd.named
  have hnm := (name_of_methodNamed Bd.named Bd.method).1
  have X0 : Stand p l e (own_R 0 0 0 0) s m #[(.ref t), (.int (3 : Int32))] below meth c s₁ [] 0 0 := Stand.of_body Bd
  have e0 : s₁.heap = h0 := by rw [← hh, Bd.state]; rfl
  have N0 := Fr.nil n0
  refine go_of (A := s₁.setTop (entryFrame m #[(.ref t), (.int (3 : Int32))] 2)) (B := s₁.setTop (mkF m 0 #[.val (.ref t), .val (.int (3 : Int32))] [])) (fun _ kk' => castTop (ef_str_cf_3 m t) kk') ?_
  refine go_of (B := (s₁.setTop (mkF m 2 #[.val (.ref t), .val (.int (3 : Int32))] [(.ref t), (.int (3 : Int32))]))) (fun _ kk => XS.iloadN X0.here hx rfl (hb hby d9_0) rfl (XS.aloadN X0.here hx rfl (hb hby d9_1) rfl rfl kk)) ?_
  obtain ⟨cl1, Ar1, q1, Sz1, Nn1, Hh1, G1⟩ := id (V)
  have ln1 := len_of Sz1 Nn1
  refine go_of (B := (s₁.setTop (mkF m 3 #[.val (.ref t), .val (.int (3 : Int32))] [(.int (3 : Int32)), (.int (3 : Int32))]))) (fun _ kk => X0.arraylength hx (by rw [e0]; exact Ar1.1) (State.isArrayOf_alike hZ.alike Ar1.2.1) (g := (mkF m 2 #[.val (.ref t), .val (.int (3 : Int32))] [(.ref t), (.int (3 : Int32))])) rfl rfl (hb hby d9_2) _ (by rw [ln1]; exact kk)) ?_
  refine go_of (B := (s₁.setTop (mkF m 8 #[.val (.ref t), .val (.int (3 : Int32))] [(.int (0 : Int32))]))) (fun _ kk => XS.isub X0.here hx rfl (hb hby d9_3) rfl (XS.bipush X0.here hx rfl (hb hby d9_4) (XS.iushr X0.here hx rfl (hb hby d9_6) rfl (XS.i2b X0.here hx rfl (hb hby d9_7) rfl kk)))) ?_
  refine go_end X0 (v := some (.int (nar .byte (0 : Int32)))) (fun h => by rw [Bd.returns] at h; cases h) Bd.notSynchronized (by decide) (by decide) (Q := (Q_str_cf_3 Z t k vs h0 n0)) ?_ (fun fs hr => retN X0 hx (t := .byte) Bd.returns (by simp) (hb hby d9_8) hr)
  unfold Q_str_cf_3
  try rw [e0]
  exact ⟨rfl, N0, rfl⟩
def Q_u_cf_3 (Z : State) (t : Addr) (k : ClassId) (vs : List Value) (h0 : Heap) (n0 : Nat) (v : Option Value) (h : Heap) (L : List Loc) : Prop := v = some (.int 1) ∧ Fr n0 L ∧ h = h0
theorem ef_u_cf_3 (m : MethodId) (t : Addr)  : entryFrame m #[(.ref t), (.int (3 : Int32))] 2 = mkF m 0 #[.val (.ref t), .val (.int (3 : Int32))] [] := by first | (simp [entryFrame, mkF, argsToLocals, Value.category]; done) | rfl
theorem u_cf_3 (l : Launch) (Z : State) (a0 : Array Value) (hw : TW a0 Z) (ws : List Jvm.Cond) (t : Addr) (k : ClassId) (vs : List Value) (h0 : Heap) (n0 : Nat) (Z0 : n0 ≤ h0.size) (V : Arv Z h0 t k .byte 6 vs (.int 0)) :
    own_MF l Z MN11 jdk_52_method_15_code 2 (some .byte) ws (own_R 0 0 0 0) #[(.ref t), (.int (3 : Int32))] h0 (Q_u_cf_3 Z t k vs h0 n0) := by
  have wd := @own_wd _ _ hw
  refine MetFree.of_bodySF (plainFor_of_name pn_java_lang_StringUTF16) hisR ?_
  intro p e s m args below meth c s₁ Bd hml0 hP hK
  obtain ⟨rfl, hZ, hh⟩ := hP
  have hx := Bd.exec
  have hby := Bd.bytes
  have hml : c.maxLocals = 2 := hml0
  have hown : s.vm.findClass "java/lang/StringUTF16" = some m.cls := findClass_of_methodNamed Bd.named
  have hnm := (name_of_methodNamed Bd.named Bd.method).1
  have X0 : Stand p l e (own_R 0 0 0 0) s m #[(.ref t), (.int (3 : Int32))] below meth c s₁ [] 0 0 := Stand.of_body Bd
  have e0 : s₁.heap = h0 := by rw [← hh, Bd.state]; rfl
  have N0 := Fr.nil n0
  refine go_of (A := s₁.setTop (entryFrame m #[(.ref t), (.int (3 : Int32))] 2)) (B := s₁.setTop (mkF m 0 #[.val (.ref t), .val (.int (3 : Int32))] [])) (fun _ kk' => castTop (ef_u_cf_3 m t) kk') ?_
  refine go_of (B := (s₁.setTop (mkF m 2 #[.val (.ref t), .val (.int (3 : Int32))] [(.ref t), (.int (3 : Int32))]))) (fun _ kk => XS.iloadN X0.here hx rfl (hb hby d9_0) rfl (XS.aloadN X0.here hx rfl (hb hby d9_1) rfl rfl kk)) ?_
  obtain ⟨cl1, Ar1, q1, Sz1, Nn1, Hh1, G1⟩ := id (V)
  have ln1 := len_of Sz1 Nn1
  refine go_of (B := (s₁.setTop (mkF m 3 #[.val (.ref t), .val (.int (3 : Int32))] [(.int (6 : Int32)), (.int (3 : Int32))]))) (fun _ kk => X0.arraylength hx (by rw [e0]; exact Ar1.1) (State.isArrayOf_alike hZ.alike Ar1.2.1) (g := (mkF m 2 #[.val (.ref t), .val (.int (3 : Int32))] [(.ref t), (.int (3 : Int32))])) rfl rfl (hb hby d9_2) _ (by rw [ln1]; exact kk)) ?_
  refine go_of (B := (s₁.setTop (mkF m 8 #[.val (.ref t), .val (.int (3 : Int32))] [(.int (1 : Int32))]))) (fun _ kk => XS.isub X0.here hx rfl (hb hby d9_3) rfl (XS.bipush X0.here hx rfl (hb hby d9_4) (XS.iushr X0.here hx rfl (hb hby d9_6) rfl (XS.i2b X0.here hx rfl (hb hby d9_7) rfl kk)))) ?_
  refine go_end X0 (v := some (.int (nar .byte (1 : Int32)))) (fun h => by rw [Bd.returns] at h; cases h) Bd.notSynchronized (by decide) (by decide) (Q := (Q_u_cf_3 Z t k vs h0 n0)) ?_ (fun fs hr => retN X0 hx (t := .byte) Bd.returns (by simp) (hb hby d9_8) hr)
  unfold Q_u_cf_3
  try rw [e0]
  exact ⟨rfl, N0, rfl⟩
def Q_u_i4_3 (Z : State) (a : Addr) (s' : Addr) (c0 : Int32) (c1 : Int32) (c2 : Int32) (ks : ClassId) (gC : Int32) (u : Value) (u2 : Value) (h0 : Heap) (n0 : Nat) (v : Option Value) (h : Heap) (L : List Loc) : Prop := v = none ∧ Fr n0 L ∧ Keep h0 h [a] ∧ StrU Z h a 3 6 [c0, c1, c2]
theorem ef_u_i4_3 (m : MethodId) (a : Addr) (s' : Addr)  : entryFrame m #[(.ref a), (.ref s'), (.int (0 : Int32)), (.int (3 : Int32)), .null] 6 = mkF m 0 #[.val (.ref a), .val (.ref s'), .val (.int (0 : Int32)), .val (.int (3 : Int32)), .val .null, .unset] [] := by first | (simp [entryFrame, mkF, argsToLocals, Value.category]; done) | rfl
theorem u_i4_3 (l : Launch) (Z : State) (a0 : Array Value) (hw : TW a0 Z) (ws : List Jvm.Cond) (a : Addr) (s' : Addr) (c0 : Int32) (c1 : Int32) (c2 : Int32) (ks : ClassId) (gC : Int32) (u : Value) (u2 : Value) (h0 : Heap) (n0 : Nat) (Z0 : n0 ≤ h0.size) (O : Old Z n0 h0) (SC : Sta Z Z.heap "java/lang/String" "COMPACT_STRINGS" "Z" (.int gC)) (hgC : ¬ gC = (0 : Int32)) (SU : US Z) (E : Exa Z h0 a "java/lang/String") (F : Fld Z h0 a "java/lang/String" "value" "[B" u) (F2 : Fld Z h0 a "java/lang/String" "coder" "B" u2) (g : n0 ≤ a) (Vs : Arv Z h0 s' ks .char 3 [(.int c0), (.int c1), (.int c2)] (.int 0)) (hc0 : ¬ c0 < 0 ∧ ¬ (65535 : Int32) < c0) (hc1 : ¬ c1 < 0 ∧ ¬ (65535 : Int32) < c1) (hc2 : ¬ c2 < 0 ∧ ¬ (65535 : Int32) < c2) :
    own_MF l Z MN4 jdk_42_method_149_code 6 none ws (own_R 4 2 9 57) #[(.ref a), (.ref s'), (.int (0 : Int32)), (.int (3 : Int32)), .null] h0 (Q_u_i4_3 Z a s' c0 c1 c2 ks gC u u2 h0 n0) := by
  have wd := @own_wd _ _ hw
  refine MetFree.of_bodySF (plainFor_of_name pn_java_lang_String) hisR ?_
  intro p e s m args below meth c s₁ Bd hml0 hP hK
  obtain ⟨rfl, hZ, hh⟩ := hP
  have hx := Bd.exec
  have hby := Bd.bytes
  have hml : c.maxLocals = 6 := hml0
  have hown : s.vm.findClass "java/lang/String" = some m.cls := findClass_of_methodNamed Bd.named
  have hnm := (name_of_methodNamed Bd.named Bd.method).1
  have X0 : Stand p l e (own_R 4 2 9 57) s m #[(.ref a), (.ref s'), (.int (0 : Int32)), (.int (3 : Int32)), .null] below meth c s₁ [] 0 0 := Stand.of_body Bd
  have e0 : s₁.heap = h0 := by rw [← hh, Bd.state]; rfl
  have N0 := Fr.nil n0
  have lta := own_nlt (E.lt)
  have lts := own_nlt (Vs.lt)
  refine go_of (A := s₁.setTop (entryFrame m #[(.ref a), (.ref s'), (.int (0 : Int32)), (.int (3 : Int32)), .null] 6)) (B := s₁.setTop (mkF m 0 #[.val (.ref a), .val (.ref s'), .val (.int (0 : Int32)), .val (.int (3 : Int32)), .val .null, .unset] [])) (fun _ kk' => castTop (ef_u_i4_3 m a s') kk') ?_
  refine go_of (B := (s₁.setTop (mkF m 1 #[.val (.ref a), .val (.ref s'), .val (.int (0 : Int32)), .val (.int (3 : Int32)), .val .null, .unset] [(.ref a)]))) (fun _ kk => XS.aloadN X0.here hx rfl (hb hby d3_0) rfl rfl kk) ?_
  obtain ⟨T1, X1, e1, st1⟩ := initO X0 hx hZ hown (wd 16 rfl) (wd 17 rfl) (wd 18 rfl) e0 (g := (mkF m 1 #[.val (.ref a), .val (.ref s'), .val (.int (0 : Int32)), .val (.int (3 : Int32)), .val .null, .unset] [(.ref a)])) rfl (by rw [hml]; rfl) rfl (hb hby d3_1) (by decide) (W := 0) (by show 2 * 0 + _ ≤ _; exact Nat.le_of_eq rfl) (by decide)
  refine go_of (B := (T1.setTop (mkF m 4 #[.val (.ref a), .val (.ref s'), .val (.int (0 : Int32)), .val (.int (3 : Int32)), .val .null, .unset] []))) (st1) ?_
  refine go_of (B := (T1.setTop (mkF m 27 #[.val (.ref a), .val (.ref s'), .val (.int (0 : Int32)), .val (.int (3 : Int32)), .val .null, .unset] []))) (fun _ kk => XS.iloadN X1.here hx rfl (hb hby d3_4) rfl (XS.ifYes X1.here hx rfl (pc0 := 5) (pc' := 27) rfl (hb hby d3_5) rfl ((if0 _ _).trans (feq (by decide : ¬ ((3 : Int32) = (0 : Int32)))).2) (by decide) (by decide) kk)) ?_
  obtain ⟨T2, X2, e2, st2⟩ := getS2 X1 hx hZ hown (host := "") (Or.inl (wd 36 rfl)) Via.refl e1 (SC.ext O.2) (g := (mkF m 27 #[.val (.ref a), .val (.ref s'), .val (.int (0 : Int32)), .val (.int (3 : Int32)), .val .null, .unset] [])) rfl (hb hby d3_27)
  refine go_of (B := (T2.setTop (mkF m 30 #[.val (.ref a), .val (.ref s'), .val (.int (0 : Int32)), .val (.int (3 : Int32)), .val .null, .unset] [(.int gC)]))) (st2) ?_
  refine go_of (B := (T2.setTop (mkF m 36 #[.val (.ref a), .val (.ref s'), .val (.int (0 : Int32)), .val (.int (3 : Int32)), .val .null, .unset] [(.int (3 : Int32)), (.int (0 : Int32)), (.ref s')]))) (fun _ kk => XS.ifNo X2.here hx rfl (hb hby d3_30) rfl ((if0 _ _).trans (feq hgC).1) (XS.aloadN X2.here hx rfl (hb hby d3_33) rfl rfl (XS.iloadN X2.here hx rfl (hb hby d3_34) rfl (XS.iloadN X2.here hx rfl (hb hby d3_35) rfl kk)))) ?_
  obtain ⟨_, _, ⟨T3, L3, k3, n3⟩, -, X3, ⟨Lc3, hQ3, l3, y3, z3⟩, st3⟩ := Jvm.LawKit.callS X2 hx (y := MN12) hown (mvT hZ (wd 37 rfl)) (mvT hZ (wd 38 rfl)) (mvT hZ (wd 39 rfl)) (mvT hZ (wd 40 rfl)) (by decide) (backOf (W := 0) (u_c3_3 l Z a0 hw [] s' c0 c1 c2 ks h0 n0 (by first | omega | exact own_ne (by omega) | exact own_le (by omega) | exact own_lt (by omega)) O SU Vs hc0 hc1 hc2) hZ (wd 40 rfl) (wd 39 rfl) (by decide) (by decide)) (g := (mkF m 36 #[.val (.ref a), .val (.ref s'), .val (.int (0 : Int32)), .val (.int (3 : Int32)), .val .null, .unset] [(.int (3 : Int32)), (.int (0 : Int32)), (.ref s')])) rfl (by rw [hml]; rfl) (argsL := [(.ref s'), (.int (0 : Int32)), (.int (3 : Int32))]) (rest := []) (lenOf pd___CII__B rfl) rfl (by show 2 * 0 + _ ≤ _; exact Nat.le_of_eq rfl) (hb hby d3_36) (fun _ _ => ⟨rfl, e2, (by decide : 0 + 2 ≤ _), (by decide : 0 + 9 ≤ _)⟩)
  dsimp only [Pt.U, Pt.locs, Pt.cells, Pt.slots] at X3 l3 y3 z3 st3 hQ3
  subst l3 y3 z3
  obtain ⟨b3, k3, rfl, N3q, lo3, K3, H3⟩ := hQ3
  have lo3 := own_nle lo3
  have N3 := Fr.app N0 N3q
  have sz3 := K3.1
  refine go_of (B := (T3.setTop (mkF m 39 #[.val (.ref a), .val (.ref s'), .val (.int (0 : Int32)), .val (.int (3 : Int32)), .val .null, .unset] [(.ref b3)]))) (st3) ?_
  rcases H3 with ⟨hl0, hl1, hl2, V3⟩ | V3
  · have hi3 := own_nlt (V3.lt)
    refine go_of (B := (T3.setTop (mkF m 45 #[.val (.ref a), .val (.ref s'), .val (.int (0 : Int32)), .val (.int (3 : Int32)), .val .null, .val (.ref b3)] [(.int (3 : Int32)), (.ref b3), (.ref a)]))) (fun _ kk => XS.astore X3.here hx rfl (hb hby d3_39) rfl rfl rfl (XS.aloadN X3.here hx rfl (hb hby d3_41) rfl rfl (XS.aload X3.here hx rfl (hb hby d3_42) rfl rfl (XS.iloadN X3.here hx rfl (hb hby d3_44) rfl kk)))) ?_
    obtain ⟨_, _, ⟨T4, L4, k4, n4⟩, -, X4, ⟨Lc4, hQ4, l4, y4, z4⟩, st4⟩ := Jvm.LawKit.callS X3 hx (y := MN11) hown (mvT hZ (wd 44 rfl)) (mvT hZ (wd 45 rfl)) (mvT hZ (wd 39 rfl)) (mvT hZ (wd 46 rfl)) (by decide) (backOf (W := 1) (str_cf_3 l Z a0 hw [] b3 k3 _ T3.heap n0 (by first | omega | exact own_ne (by omega) | exact own_le (by omega) | exact own_lt (by omega)) V3) hZ (wd 46 rfl) (wd 39 rfl) (by decide) (by decide)) (g := (mkF m 45 #[.val (.ref a), .val (.ref s'), .val (.int (0 : Int32)), .val (.int (3 : Int32)), .val .null, .val (.ref b3)] [(.int (3 : Int32)), (.ref b3), (.ref a)])) rfl (by rw [hml]; rfl) (argsL := [(.ref b3), (.int (3 : Int32))]) (rest := [(.ref a)]) (lenOf pd___BI_B rfl) rfl (by show 2 * 0 + _ ≤ _; exact Nat.le_of_eq rfl) (hb hby d3_45) (fun _ _ => ⟨rfl, rfl, (by decide : 2 + 0 ≤ _), (by decide : 9 + 0 ≤ _)⟩)
    dsimp only [Pt.U, Pt.locs, Pt.cells, Pt.slots] at X4 l4 y4 z4 st4 hQ4
    subst l4 y4 z4
    obtain ⟨rfl, N4q, e4⟩ := hQ4
    have N4 := Fr.app N3 N4q
    refine go_of (B := (T4.setTop (mkF m 48 #[.val (.ref a), .val (.ref s'), .val (.int (0 : Int32)), .val (.int (3 : Int32)), .val .null, .val (.ref b3)] [(.int (0 : Int32)), (.ref a)]))) (st4) ?_
    have cf_5 := (E.keep K3)
    have cf_6 := (F2.keep K3 nin0)
    obtain ⟨T7, h7, X7, e7, W7, st7⟩ := putFN X4 hx hZ hown (wd 26 rfl) Via.refl e4 cf_6 cf_5 (Or.inr ⟨(wd 22 rfl), rfl, hnm⟩) (wd 2 rfl) (ty := .byte) (v' := (.int (nar .byte (0 : Int32)))) (by decide) rfl (fits_nar_byte _) (g := (mkF m 48 #[.val (.ref a), .val (.ref s'), .val (.int (0 : Int32)), .val (.int (3 : Int32)), .val .null, .val (.ref b3)] [(.int (0 : Int32)), (.ref a)])) rfl rfl (hb hby d3_48)
    have sz7 := W7.size
    have Fw7 := cf_6.same W7
    have N7 := Fr.snoc X7 N4 (g : n0 ≤ a)
    refine go_of (B := (T7.setTop (mkF m 51 #[.val (.ref a), .val (.ref s'), .val (.int (0 : Int32)), .val (.int (3 : Int32)), .val .null, .val (.ref b3)] []))) (st7) ?_
    refine go_of (B := (T7.setTop (mkF m 54 #[.val (.ref a), .val (.ref s'), .val (.int (0 : Int32)), .val (.int (3 : Int32)), .val .null, .val (.ref b3)] [(.ref b3), (.ref a)]))) (fun _ kk => XS.aloadN X7.here hx rfl (hb hby d3_51) rfl rfl (XS.aload X7.here hx rfl (hb hby d3_52) rfl rfl kk)) ?_
    have cf_8 := (cf_5.wr W7)
    have cf_9 := ((F.keep K3 nin0).other W7 (Or.inr (slot_ne (Or.inr (wd 21 rfl)) (Or.inr (wd 22 rfl)) (by decide) (t := (.array .byte)) (t' := .byte) (by decide) (by decide))))
    obtain ⟨T10, h10, X10, e10, W10, st10⟩ := putF X7 hx hZ hown (host := "") (Or.inl (wd 25 rfl)) Via.refl e7 cf_9 cf_8 (Or.inr ⟨(wd 21 rfl), rfl, hnm⟩) (wd 2 rfl) (ty := (.array .byte)) (by decide) rfl rfl (g := (mkF m 54 #[.val (.ref a), .val (.ref s'), .val (.int (0 : Int32)), .val (.int (3 : Int32)), .val .null, .val (.ref b3)] [(.ref b3), (.ref a)])) rfl rfl (hb hby d3_54)
    have sz10 := W10.size
    have Fw10 := cf_9.same W10
    have N10 := Fr.snoc X10 N7 (g : n0 ≤ a)
    refine go_of (B := (T10.setTop (mkF m 57 #[.val (.ref a), .val (.ref s'), .val (.int (0 : Int32)), .val (.int (3 : Int32)), .val .null, .val (.ref b3)] []))) (st10) ?_
    have cf_11 := ((V3.other W7 (by first | omega | exact own_ne (by omega) | exact own_le (by omega) | exact own_lt (by omega))).other W10 (by first | omega | exact own_ne (by omega) | exact own_le (by omega) | exact own_lt (by omega)))
    have cf_12 := (Fw7.other W10 (Or.inr (slot_ne (Or.inr (wd 22 rfl)) (Or.inr (wd 21 rfl)) (by decide) (t := .byte) (t' := (.array .byte)) (by decide) (by decide))))
    have cf_13 := (cf_8.wr W10)
    refine go_end X10 (v := none) (fun _ => rfl) Bd.notSynchronized (by decide) (by decide) (Q := (Q_u_i4_3 Z a s' c0 c1 c2 ks gC u u2 h0 n0)) ?_ (fun fs hr => X10.returnOut hx Bd.returns (hb hby d3_57) hr)
    unfold Q_u_i4_3
    try rw [e10]
    exact ⟨rfl, N10, ((((Keep.refl h0 [a]).trans K3 all0).wr W7 (Or.inl (List.mem_of_getElem? (i := 0) rfl))).wr W10 (Or.inl (List.mem_of_getElem? (i := 0) rfl))), Or.inl ⟨b3, k3, cf_13, cf_12, Fw10, cf_11, (own_allc ⟨hc0.1, hl0⟩ (own_allc ⟨hc1.1, hl1⟩ (own_allc ⟨hc2.1, hl2⟩ (fun _ q => nomatch q))))⟩⟩
  · have hi3 := own_nlt (V3.lt)
    refine go_of (B := (T3.setTop (mkF m 45 #[.val (.ref a), .val (.ref s'), .val (.int (0 : Int32)), .val (.int (3 : Int32)), .val .null, .val (.ref b3)] [(.int (3 : Int32)), (.ref b3), (.ref a)]))) (fun _ kk => XS.astore X3.here hx rfl (hb hby d3_39) rfl rfl rfl (XS.aloadN X3.here hx rfl (hb hby d3_41) rfl rfl (XS.aload X3.here hx rfl (hb hby d3_42) rfl rfl (XS.iloadN X3.here hx rfl (hb hby d3_44) rfl kk)))) ?_
    obtain ⟨_, _, ⟨T14, L14, k14, n14⟩, -, X14, ⟨Lc14, hQ14, l14, y14, z14⟩, st14⟩ := Jvm.LawKit.callS X3 hx (y := MN11) hown (mvT hZ (wd 44 rfl)) (mvT hZ (wd 45 rfl)) (mvT hZ (wd 39 rfl)) (mvT hZ (wd 46 rfl)) (by decide) (backOf (W := 1) (u_cf_3 l Z a0 hw [] b3 k3 _ T3.heap n0 (by first | omega | exact own_ne (by omega) | exact own_le (by omega) | exact own_lt (by omega)) V3) hZ (wd 46 rfl) (wd 39 rfl) (by decide) (by decide)) (g := (mkF m 45 #[.val (.ref a), .val (.ref s'), .val (.int (0 : Int32)), .val (.int (3 : Int32)), .val .null, .val (.ref b3)] [(.int (3 : Int32)), (.ref b3), (.ref a)])) rfl (by rw [hml]; rfl) (argsL := [(.ref b3), (.int (3 : Int32))]) (rest := [(.ref a)]) (lenOf pd___BI_B rfl) rfl (by show 2 * 0 + _ ≤ _; exact Nat.le_of_eq rfl) (hb hby d3_45) (fun _ _ => ⟨rfl, rfl, (by decide : 2 + 0 ≤ _), (by decide : 9 + 0 ≤ _)⟩)
    dsimp only [Pt.U, Pt.locs, Pt.cells, Pt.slots] at X14 l14 y14 z14 st14 hQ14
    subst l14 y14 z14
    obtain ⟨rfl, N14q, e14⟩ := hQ14
    have N14 := Fr.app N3 N14q
    refine go_of (B := (T14.setTop (mkF m 48 #[.val (.ref a), .val (.ref s'), .val (.int (0 : Int32)), .val (.int (3 : Int32)), .val .null, .val (.ref b3)] [(.int (1 : Int32)), (.ref a)]))) (st14) ?_
    have cf_15 := (E.keep K3)
    have cf_16 := (F2.keep K3 nin0)
    obtain ⟨T17, h17, X17, e17, W17, st17⟩ := putFN X14 hx hZ hown (wd 26 rfl) Via.refl e14 cf_16 cf_15 (Or.inr ⟨(wd 22 rfl), rfl, hnm⟩) (wd 2 rfl) (ty := .byte) (v' := (.int (nar .byte (1 : Int32)))) (by decide) rfl (fits_nar_byte _) (g := (mkF m 48 #[.val (.ref a), .val (.ref s'), .val (.int (0 : Int32)), .val (.int (3 : Int32)), .val .null, .val (.ref b3)] [(.int (1 : Int32)), (.ref a)])) rfl rfl (hb hby d3_48)
    have sz17 := W17.size
    have Fw17 := cf_16.same W17
    have N17 := Fr.snoc X17 N14 (g : n0 ≤ a)
    refine go_of (B := (T17.setTop (mkF m 51 #[.val (.ref a), .val (.ref s'), .val (.int (0 : Int32)), .val (.int (3 : Int32)), .val .null, .val (.ref b3)] []))) (st17) ?_
    refine go_of (B := (T17.setTop (mkF m 54 #[.val (.ref a), .val (.ref s'), .val (.int (0 : Int32)), .val (.int (3 : Int32)), .val .null, .val (.ref b3)] [(.ref b3), (.ref a)]))) (fun _ kk => XS.aloadN X17.here hx rfl (hb hby d3_51) rfl rfl (XS.aload X17.here hx rfl (hb hby d3_52) rfl rfl kk)) ?_
    have cf_18 := (cf_15.wr W17)
    have cf_19 := ((F.keep K3 nin0).other W17 (Or.inr (slot_ne (Or.inr (wd 21 rfl)) (Or.inr (wd 22 rfl)) (by decide) (t := (.array .byte)) (t' := .byte) (by decide) (by decide))))
    obtain ⟨T20, h20, X20, e20, W20, st20⟩ := putF X17 hx hZ hown (host := "") (Or.inl (wd 25 rfl)) Via.refl e17 cf_19 cf_18 (Or.inr ⟨(wd 21 rfl), rfl, hnm⟩) (wd 2 rfl) (ty := (.array .byte)) (by decide) rfl rfl (g := (mkF m 54 #[.val (.ref a), .val (.ref s'), .val (.int (0 : Int32)), .val (.int (3 : Int32)), .val .null, .val (.ref b3)] [(.ref b3), (.ref a)])) rfl rfl (hb hby d3_54)
    have sz20 := W20.size
    have Fw20 := cf_19.same W20
    have N20 := Fr.snoc X20 N17 (g : n0 ≤ a)
    refine go_of (B := (T20.setTop (mkF m 57 #[.val (.ref a), .val (.ref s'), .val (.int (0 : Int32)), .val (.int (3 : Int32)), .val .null, .val (.ref b3)] []))) (st20) ?_
    have cf_21 := ((V3.other W17 (by first | omega | exact own_ne (by omega) | exact own_le (by omega) | exact own_lt (by omega))).other W20 (by first | omega | exact own_ne (by omega) | exact own_le (by omega) | exact own_lt (by omega)))
    have cf_22 := (Fw17.other W20 (Or.inr (slot_ne (Or.inr (wd 22 rfl)) (Or.inr (wd 21 rfl)) (by decide) (t := .byte) (t' := (.array .byte)) (by decide) (by decide))))
    have cf_23 := (cf_18.wr W20)
    refine go_end X20 (v := none) (fun _ => rfl) Bd.notSynchronized (by decide) (by decide) (Q := (Q_u_i4_3 Z a s' c0 c1 c2 ks gC u u2 h0 n0)) ?_ (fun fs hr => X20.returnOut hx Bd.returns (hb hby d3_57) hr)
    unfold Q_u_i4_3
    try rw [e20]
    exact ⟨rfl, N20, ((((Keep.refl h0 [a]).trans K3 all0).wr W17 (Or.inl (List.mem_of_getElem? (i := 0) rfl))).wr W20 (Or.inl (List.mem_of_getElem? (i := 0) rfl))), Or.inr ⟨b3, k3, cf_23, cf_22, Fw20, cf_21, (own_allc hc0 (own_allc hc1 (own_allc hc2 (fun _ q => nomatch q))))⟩⟩
def Q_u_i1_3 (Z : State) (a : Addr) (s' : Addr) (c0 : Int32) (c1 : Int32) (c2 : Int32) (ks : ClassId) (gC : Int32) (u : Value) (u2 : Value) (h0 : Heap) (n0 : Nat) (v : Option Value) (h : Heap) (L : List Loc) : Prop := v = none ∧ Fr n0 L ∧ Keep h0 h [a] ∧ StrU Z h a 3 6 [c0, c1, c2]
theorem ef_u_i1_3 (m : MethodId) (a : Addr) (s' : Addr)  : entryFrame m #[(.ref a), (.ref s')] 2 = mkF m 0 #[.val (.ref a), .val (.ref s')] [] := by first | (simp [entryFrame, mkF, argsToLocals, Value.category]; done) | rfl
theorem u_i1_3 (l : Launch) (Z : State) (a0 : Array Value) (hw : TW a0 Z) (ws : List Jvm.Cond) (a : Addr) (s' : Addr) (c0 : Int32) (c1 : Int32) (c2 : Int32) (ks : ClassId) (gC : Int32) (u : Value) (u2 : Value) (h0 : Heap) (n0 : Nat) (Z0 : n0 ≤ h0.size) (O : Old Z n0 h0) (SC : Sta Z Z.heap "java/lang/String" "COMPACT_STRINGS" "Z" (.int gC)) (hgC : ¬ gC = (0 : Int32)) (SU : US Z) (E : Exa Z h0 a "java/lang/String") (F : Fld Z h0 a "java/lang/String" "value" "[B" u) (F2 : Fld Z h0 a "java/lang/String" "coder" "B" u2) (g : n0 ≤ a) (Vs : Arv Z h0 s' ks .char 3 [(.int c0), (.int c1), (.int c2)] (.int 0)) (hc0 : ¬ c0 < 0 ∧ ¬ (65535 : Int32) < c0) (hc1 : ¬ c1 < 0 ∧ ¬ (65535 : Int32) < c1) (hc2 : ¬ c2 < 0 ∧ ¬ (65535 : Int32) < c2) :
    own_MF l Z MN3 jdk_42_method_3_code 2 none ws (own_R 5 2 9 74) #[(.ref a), (.ref s')] h0 (Q_u_i1_3 Z a s' c0 c1 c2 ks gC u u2 h0 n0) := by
  have wd := @own_wd _ _ hw
  refine MetFree.of_bodySF (plainFor_of_name pn_java_lang_String) hisR ?_
  intro p e s m args below meth c s₁ Bd hml0 hP hK
  obtain ⟨rfl, hZ, hh⟩ := hP
  have hx := Bd.exec
  have hby := Bd.bytes
  have hml : c.maxLocals = 2 := hml0
  have hown : s.vm.findClass "java/lang/String" = some m.cls := findClass_of_methodNamed Bd.named
  have hnm := (name_of_methodNamed Bd.named Bd.method).1
  have X0 : Stand p l e (own_R 5 2 9 74) s m #[(.ref a), (.ref s')] below meth c s₁ [] 0 0 := Stand.of_body Bd
  have e0 : s₁.heap = h0 := by rw [← hh, Bd.state]; rfl
  have N0 := Fr.nil n0
  have lta := own_nlt (E.lt)
  have lts := own_nlt (Vs.lt)
  refine go_of (A := s₁.setTop (entryFrame m #[(.ref a), (.ref s')] 2)) (B := s₁.setTop (mkF m 0 #[.val (.ref a), .val (.ref s')] [])) (fun _ kk' => castTop (ef_u_i1_3 m a s') kk') ?_
  refine go_of (B := (s₁.setTop (mkF m 4 #[.val (.ref a), .val (.ref s')] [(.ref s'), (.int (0 : Int32)), (.ref s'), (.ref a)]))) (fun _ kk => XS.aloadN X0.here hx rfl (hb hby d2_0) rfl rfl (XS.aloadN X0.here hx rfl (hb hby d2_1) rfl rfl (XS.iconst X0.here hx rfl (hb hby d2_2) (XS.aloadN X0.here hx rfl (hb hby d2_3) rfl rfl kk)))) ?_
  obtain ⟨cl1, Ar1, q1, Sz1, Nn1, Hh1, G1⟩ := id (Vs)
  have ln1 := len_of Sz1 Nn1
  refine go_of (B := (s₁.setTop (mkF m 5 #[.val (.ref a), .val (.ref s')] [(.int (3 : Int32)), (.int (0 : Int32)), (.ref s'), (.ref a)]))) (fun _ kk => X0.arraylength hx (by rw [e0]; exact Ar1.1) (State.isArrayOf_alike hZ.alike Ar1.2.1) (g := (mkF m 4 #[.val (.ref a), .val (.ref s')] [(.ref s'), (.int (0 : Int32)), (.ref s'), (.ref a)])) rfl rfl (hb hby d2_4) _ (by rw [ln1]; exact kk)) ?_
  refine go_of (B := (s₁.setTop (mkF m 6 #[.val (.ref a), .val (.ref s')] [.null, (.int (3 : Int32)), (.int (0 : Int32)), (.ref s'), (.ref a)]))) (fun _ kk => XS.aconstNull X0.here hx rfl (hb hby d2_5) kk) ?_
  obtain ⟨_, _, ⟨T2, L2, k2, n2⟩, -, X2, ⟨Lc2, hQ2, l2, y2, z2⟩, st2⟩ := X0.specialBack hx (y := MN4) rfl hown (mvT hZ (wd 12 rfl)) (mvT hZ (wd 13 rfl)) (mvT hZ (wd 15 rfl)) (by decide) (backOf (W := 0) (u_i4_3 l Z a0 hw [] a s' c0 c1 c2 ks gC u u2 h0 n0 (by first | omega | exact own_ne (by omega) | exact own_le (by omega) | exact own_lt (by omega)) O SC hgC SU E F F2 g Vs hc0 hc1 hc2) hZ (wd 15 rfl) (wd 3 rfl) (by decide) (by decide)) (g := (mkF m 6 #[.val (.ref a), .val (.ref s')] [.null, (.int (3 : Int32)), (.int (0 : Int32)), (.ref s'), (.ref a)])) rfl (by rw [hml]; rfl) (Steps.refl _) (a := a) (argsL := [(.ref s'), (.int (0 : Int32)), (.int (3 : Int32)), .null]) (rest := []) (lenOf pd___CIILjava_lang_Void__V rfl) rfl (by show 2 * 0 + _ ≤ _; exact Nat.le_of_eq rfl) (hb hby d2_6) (fun _ _ => ⟨rfl, e0, (by decide : 0 + 2 ≤ _), (by decide : 0 + 9 ≤ _)⟩)
  dsimp only [Pt.U, Pt.locs, Pt.cells, Pt.slots] at X2 l2 y2 z2 st2 hQ2
  subst l2 y2 z2
  obtain ⟨rfl, N2q, K2, S2⟩ := hQ2
  have N2 := Fr.app N0 N2q
  have sz2 := K2.1
  refine go_tr (B := (T2.setTop (mkF m 9 #[.val (.ref a), .val (.ref s')] []))) (st2) ?_
  refine go_end X2 (v := none) (fun _ => rfl) Bd.notSynchronized (by decide) (by decide) (Q := (Q_u_i1_3 Z a s' c0 c1 c2 ks gC u u2 h0 n0)) ?_ (fun fs hr => X2.returnOut hx Bd.returns (hb hby d2_9) hr)
  unfold Q_u_i1_3
  exact ⟨rfl, N2, ((Keep.refl h0 [a]).trans K2 (allS (Or.inl (List.mem_of_getElem? (i := 0) rfl)) all0)), S2⟩
def Q_u_c5_4 (Z : State) (s' : Addr) (d : Addr) (c0 : Int32) (c1 : Int32) (c2 : Int32) (c3 : Int32) (ks : ClassId) (kd : ClassId) (h0 : Heap) (n0 : Nat) (v : Option Value) (h : Heap) (L : List Loc) : Prop := ∃ r : Int32, v = some (.int r) ∧ Fr n0 L ∧ Keep h0 h [d] ∧ ((r = 4 ∧ ¬ (255 : Int32) < c0 ∧ ¬ (255 : Int32) < c1 ∧ ¬ (255 : Int32) < c2 ∧ ¬ (255 : Int32) < c3 ∧ Arv Z h d kd .byte 4 [(.int (own_b8 c0)), (.int (own_b8 c1)), (.int (own_b8 c2)), (.int (own_b8 c3))] (.int 0)) ∨ (r = 0 ∧ (255 : Int32) < c0) ∨ (r = 1 ∧ (255 : Int32) < c1) ∨ (r = 2 ∧ (255 : Int32) < c2) ∨ (r = 3 ∧ (255 : Int32) < c3))
theorem ef_u_c5_4 (m : MethodId) (s' : Addr) (d : Addr)  : entryFrame m #[(.ref s'), (.int (0 : Int32)), (.ref d), (.int (0 : Int32)), (.int (4 : Int32))] 7 = mkF m 0 #[.val (.ref s'), .val (.int (0 : Int32)), .val (.ref d), .val (.int (0 : Int32)), .val (.int (4 : Int32)), .unset, .unset] [] := by first | (simp [entryFrame, mkF, argsToLocals, Value.category]; done) | rfl
theorem u_c5_4 (l : Launch) (Z : State) (a0 : Array Value) (hw : TW a0 Z) (ws : List Jvm.Cond) (s' : Addr) (d : Addr) (c0 : Int32) (c1 : Int32) (c2 : Int32) (c3 : Int32) (ks : ClassId) (kd : ClassId) (h0 : Heap) (n0 : Nat) (Z0 : n0 ≤ h0.size) (Vs : Arv Z h0 s' ks .char 4 [(.int c0), (.int c1), (.int c2), (.int c3)] (.int 0)) (Vd : Arv Z h0 d kd .byte 4 [(.int 0), (.int 0), (.int 0), (.int 0)] (.int 0)) (nsd : s' ≠ d) (g : n0 ≤ d) :
    own_MF l Z MN13 jdk_52_method_21_code 7 (some .int) ws (own_R 0 0 0 0) #[(.ref s'), (.int (0 : Int32)), (.ref d), (.int (0 : Int32)), (.int (4 : Int32))] h0 (Q_u_c5_4 Z s' d c0 c1 c2 c3 ks kd h0 n0) := by
  have wd := @own_wd _ _ hw
  refine MetFree.of_bodySF (plainFor_of_name pn_java_lang_StringUTF16) hisR ?_
  intro p e s m args below meth c s₁ Bd hml0 hP hK
  obtain ⟨rfl, hZ, hh⟩ := hP
  have hx := Bd.exec
  have hby := Bd.bytes
  have hml : c.maxLocals = 7 := hml0
  have hown : s.vm.findClass "java/lang/StringUTF16" = some m.cls := findClass_of_methodNamed Bd.named
  have hnm := (name_of_methodNamed Bd.named Bd.method).1
  have X0 : Stand p l e (own_R 0 0 0 0) s m #[(.ref s'), (.int (0 : Int32)), (.ref d), (.int (0 : Int32)), (.int (4 : Int32))] below meth c s₁ [] 0 0 := Stand.of_body Bd
  have e0 : s₁.heap = h0 := by rw [← hh, Bd.state]; rfl
  have N0 := Fr.nil n0
  have lts := own_nlt (Vs.lt)
  have ltd := own_nlt (Vd.lt)
  refine go_of (A := s₁.setTop (entryFrame m #[(.ref s'), (.int (0 : Int32)), (.ref d), (.int (0 : Int32)), (.int (4 : Int32))] 7)) (B := s₁.setTop (mkF m 0 #[.val (.ref s'), .val (.int (0 : Int32)), .val (.ref d), .val (.int (0 : Int32)), .val (.int (4 : Int32)), .unset, .unset] [])) (fun _ kk' => castTop (ef_u_c5_4 m s' d) kk') ?_
  refine go_of (B := (s₁.setTop (mkF m 11 #[.val (.ref s'), .val (.int (0 : Int32)), .val (.ref d), .val (.int (0 : Int32)), .val (.int (4 : Int32)), .val (.int (0 : Int32)), .unset] [(.ref s')]))) (fun _ kk => XS.iconst X0.here hx rfl (hb hby d8_0) (XS.istore X0.here hx rfl (hb hby d8_1) rfl rfl (XS.iload X0.here hx rfl (hb hby d8_3) rfl (XS.iload X0.here hx rfl (hb hby d8_5) rfl (XS.icmpNo X0.here hx rfl (hb hby d8_7) rfl (tlt (by decide : (0 : Int32) < (4 : Int32))).2.1 (XS.aloadN X0.here hx rfl (hb hby d8_10) rfl rfl kk)))))) ?_
  refine go_of (B := (s₁.setTop (mkF m 12 #[.val (.ref s'), .val (.int (0 : Int32)), .val (.ref d), .val (.int (0 : Int32)), .val (.int (4 : Int32)), .val (.int (0 : Int32)), .unset] [(.int (0 : Int32)), (.ref s')]))) (fun _ kk => XS.iloadN X0.here hx rfl (hb hby d8_11) rfl kk) ?_
  obtain ⟨cl1, Ar1, q1, Sz1, Nn1, Hh1, G1⟩ := id (Vs)
  refine go_of (B := (s₁.setTop (mkF m 20 #[.val (.ref s'), .val (.int (0 : Int32)), .val (.ref d), .val (.int (0 : Int32)), .val (.int (4 : Int32)), .val (.int (0 : Int32)), .val (.int c0)] [(.int (255 : Int32)), (.int c0)]))) (fun _ kk => X0.caload hx (j := (0 : Int32)) (v := (.int c0)) (by rw [e0]; exact Ar1.1) (State.isArrayOf_alike hZ.alike Ar1.2.1) Ar1.2.2 (inb_of Sz1 ⟨by decide, by decide⟩) (Hh1.at (inb_of Sz1 ⟨by decide, by decide⟩) rfl) (g := (mkF m 12 #[.val (.ref s'), .val (.int (0 : Int32)), .val (.ref d), .val (.int (0 : Int32)), .val (.int (4 : Int32)), .val (.int (0 : Int32)), .unset] [(.int (0 : Int32)), (.ref s')])) rfl rfl (hb hby d8_12) _ (XS.istore X0.here hx rfl (hb hby d8_13) rfl rfl (XS.iload X0.here hx rfl (hb hby d8_15) rfl (XS.sipush X0.here hx rfl (hb hby d8_17) kk)))) ?_
  by_cases hcc2 : (255 : Int32) < c0
  · refine go_of (B := (s₁.setTop (mkF m 25 #[.val (.ref s'), .val (.int (0 : Int32)), .val (.ref d), .val (.int (0 : Int32)), .val (.int (4 : Int32)), .val (.int (0 : Int32)), .val (.int c0)] [(.int (0 : Int32))]))) (fun _ kk => XS.icmpNo X0.here hx rfl (hb hby d8_20) rfl (tlt hcc2).2.2.2 (XS.iload X0.here hx rfl (hb hby d8_23) rfl kk)) ?_
    refine go_end X0 (v := some (.int (0 : Int32))) (fun h => by rw [Bd.returns] at h; cases h) Bd.notSynchronized (by decide) (by decide) (Q := (Q_u_c5_4 Z s' d c0 c1 c2 c3 ks kd h0 n0)) ?_ (fun fs hr => own_retI X0 hx Bd.returns (hb hby d8_25) hr)
    unfold Q_u_c5_4
    try rw [e0]
    exact ⟨_, rfl, N0, (Keep.refl h0 [d]), Or.inr (Or.inl ⟨rfl, hcc2⟩)⟩
  · refine go_of (B := (s₁.setTop (mkF m 31 #[.val (.ref s'), .val (.int (0 : Int32)), .val (.ref d), .val (.int (0 : Int32)), .val (.int (4 : Int32)), .val (.int (0 : Int32)), .val (.int c0)] [(.int (c0.toInt8.toInt32)), (.int (0 : Int32)), (.ref d)]))) (fun _ kk => XS.icmpYes X0.here hx rfl (pc0 := 20) (pc' := 26) rfl (hb hby d8_20) rfl (flt hcc2).2.2.2 (by decide) (by decide) (XS.aloadN X0.here hx rfl (hb hby d8_26) rfl rfl (XS.iloadN X0.here hx rfl (hb hby d8_27) rfl (XS.iload X0.here hx rfl (hb hby d8_28) rfl (XS.i2b X0.here hx rfl (hb hby d8_30) rfl kk))))) ?_
    obtain ⟨cl3, Ar3, q3, Sz3, Nn3, Hh3, G3⟩ := id (Vd)
    obtain ⟨T4, h4, X4, e4, W4, st4⟩ := stB X0 hx hZ e0 Ar3 (j := (0 : Int32)) (inb_of Sz3 ⟨by decide, by decide⟩) (g := (mkF m 31 #[.val (.ref s'), .val (.int (0 : Int32)), .val (.ref d), .val (.int (0 : Int32)), .val (.int (4 : Int32)), .val (.int (0 : Int32)), .val (.int c0)] [(.int (c0.toInt8.toInt32)), (.int (0 : Int32)), (.ref d)])) rfl rfl (hb hby d8_31)
    have sz4 := W4.size
    have N4 := Fr.snoc X4 N0 (g : n0 ≤ d)
    have V4 : Arv Z h4 d kd .byte (4 : Int32) [(.int ((c0.toInt8.toInt32).toInt8.toInt32)), (.int (0 : Int32)), (.int (0 : Int32)), (.int (0 : Int32))] (.int (0 : Int32)) := Arv.set Ar3 q3 Sz3 Nn3 Hh3 G3 (fits_nar_byte _) W4 0 rfl (Nat.le_of_ble_eq_true rfl)
    rw [own_bb] at V4
    refine go_of (B := (T4.setTop (mkF m 32 #[.val (.ref s'), .val (.int (0 : Int32)), .val (.ref d), .val (.int (0 : Int32)), .val (.int (4 : Int32)), .val (.int (0 : Int32)), .val (.int c0)] []))) (st4) ?_
    refine go_of (B := (T4.setTop (mkF m 7 #[.val (.ref s'), .val (.int (1 : Int32)), .val (.ref d), .val (.int (1 : Int32)), .val (.int (4 : Int32)), .val (.int (1 : Int32)), .val (.int c0)] [(.int (4 : Int32)), (.int (1 : Int32))]))) (fun _ kk => XS.iinc X4.here hx rfl (hb hby d8_32) rfl rfl (XS.iinc X4.here hx rfl (hb hby d8_35) rfl rfl (XS.iinc X4.here hx rfl (hb hby d8_38) rfl rfl (XS.goto X4.here hx rfl (pc0 := 41) (pc' := 3) rfl (hb hby d8_41) (by decide) (by decide) (XS.iload X4.here hx rfl (hb hby d8_3) rfl (XS.iload X4.here hx rfl (hb hby d8_5) rfl kk)))))) ?_
    refine go_of (B := (T4.setTop (mkF m 12 #[.val (.ref s'), .val (.int (1 : Int32)), .val (.ref d), .val (.int (1 : Int32)), .val (.int (4 : Int32)), .val (.int (1 : Int32)), .val (.int c0)] [(.int (1 : Int32)), (.ref s')]))) (fun _ kk => XS.icmpNo X4.here hx rfl (hb hby d8_7) rfl (tlt (by decide : (1 : Int32) < (4 : Int32))).2.1 (XS.aloadN X4.here hx rfl (hb hby d8_10) rfl rfl (XS.iloadN X4.here hx rfl (hb hby d8_11) rfl kk))) ?_
    have cf_5 := (Vs.other W4 (by first | omega | exact own_ne (by omega) | exact own_le (by omega) | exact own_lt (by omega)))
    obtain ⟨cl6, Ar6, q6, Sz6, Nn6, Hh6, G6⟩ := id (cf_5)
    refine go_of (B := (T4.setTop (mkF m 20 #[.val (.ref s'), .val (.int (1 : Int32)), .val (.ref d), .val (.int (1 : Int32)), .val (.int (4 : Int32)), .val (.int (1 : Int32)), .val (.int c1)] [(.int (255 : Int32)), (.int c1)]))) (fun _ kk => X4.caload hx (j := (1 : Int32)) (v := (.int c1)) (by rw [e4]; exact Ar6.1) (State.isArrayOf_alike hZ.alike Ar6.2.1) Ar6.2.2 (inb_of Sz6 ⟨by decide, by decide⟩) (Hh6.at (inb_of Sz6 ⟨by decide, by decide⟩) rfl) (g := (mkF m 12 #[.val (.ref s'), .val (.int (1 : Int32)), .val (.ref d), .val (.int (1 : Int32)), .val (.int (4 : Int32)), .val (.int (1 : Int32)), .val (.int c0)] [(.int (1 : Int32)), (.ref s')])) rfl rfl (hb hby d8_12) _ (XS.istore X4.here hx rfl (hb hby d8_13) rfl rfl (XS.iload X4.here hx rfl (hb hby d8_15) rfl (XS.sipush X4.here hx rfl (hb hby d8_17) kk)))) ?_
    by_cases hcc7 : (255 : Int32) < c1
    · refine go_of (B := (T4.setTop (mkF m 25 #[.val (.ref s'), .val (.int (1 : Int32)), .val (.ref d), .val (.int (1 : Int32)), .val (.int (4 : Int32)), .val (.int (1 : Int32)), .val (.int c1)] [(.int (1 : Int32))]))) (fun _ kk => XS.icmpNo X4.here hx rfl (hb hby d8_20) rfl (tlt hcc7).2.2.2 (XS.iload X4.here hx rfl (hb hby d8_23) rfl kk)) ?_
      refine go_end X4 (v := some (.int (1 : Int32))) (fun h => by rw [Bd.returns] at h; cases h) Bd.notSynchronized (by decide) (by decide) (Q := (Q_u_c5_4 Z s' d c0 c1 c2 c3 ks kd h0 n0)) ?_ (fun fs hr => own_retI X4 hx Bd.returns (hb hby d8_25) hr)
      unfold Q_u_c5_4
      try rw [e4]
      exact ⟨_, rfl, N4, ((Keep.refl h0 [d]).wr W4 (Or.inl (List.mem_of_getElem? (i := 0) rfl))), Or.inr (Or.inr (Or.inl ⟨rfl, hcc7⟩))⟩
    · refine go_of (B := (T4.setTop (mkF m 31 #[.val (.ref s'), .val (.int (1 : Int32)), .val (.ref d), .val (.int (1 : Int32)), .val (.int (4 : Int32)), .val (.int (1 : Int32)), .val (.int c1)] [(.int (c1.toInt8.toInt32)), (.int (1 : Int32)), (.ref d)]))) (fun _ kk => XS.icmpYes X4.here hx rfl (pc0 := 20) (pc' := 26) rfl (hb hby d8_20) rfl (flt hcc7).2.2.2 (by decide) (by decide) (XS.aloadN X4.here hx rfl (hb hby d8_26) rfl rfl (XS.iloadN X4.here hx rfl (hb hby d8_27) rfl (XS.iload X4.here hx rfl (hb hby d8_28) rfl (XS.i2b X4.here hx rfl (hb hby d8_30) rfl kk))))) ?_
      obtain ⟨cl8, Ar8, q8, Sz8, Nn8, Hh8, G8⟩ := id (V4)
      obtain ⟨T9, h9, X9, e9, W9, st9⟩ := stB X4 hx hZ e4 Ar8 (j := (1 : Int32)) (inb_of Sz8 ⟨by decide, by decide⟩) (g := (mkF m 31 #[.val (.ref s'), .val (.int (1 : Int32)), .val (.ref d), .val (.int (1 : Int32)), .val (.int (4 : Int32)), .val (.int (1 : Int32)), .val (.int c1)] [(.int (c1.toInt8.toInt32)), (.int (1 : Int32)), (.ref d)])) rfl rfl (hb hby d8_31)
      have sz9 := W9.size
      have N9 := Fr.snoc X9 N4 (g : n0 ≤ d)
      have V9 : Arv Z h9 d kd .byte (4 : Int32) [(.int (c0.toInt8.toInt32)), (.int ((c1.toInt8.toInt32).toInt8.toInt32)), (.int (0 : Int32)), (.int (0 : Int32))] (.int (0 : Int32)) := Arv.set Ar8 q8 Sz8 Nn8 Hh8 G8 (fits_nar_byte _) W9 1 rfl (Nat.le_of_ble_eq_true rfl)
      rw [own_bb] at V9
      refine go_of (B := (T9.setTop (mkF m 32 #[.val (.ref s'), .val (.int (1 : Int32)), .val (.ref d), .val (.int (1 : Int32)), .val (.int (4 : Int32)), .val (.int (1 : Int32)), .val (.int c1)] []))) (st9) ?_
      refine go_of (B := (T9.setTop (mkF m 7 #[.val (.ref s'), .val (.int (2 : Int32)), .val (.ref d), .val (.int (2 : Int32)), .val (.int (4 : Int32)), .val (.int (2 : Int32)), .val (.int c1)] [(.int (4 : Int32)), (.int (2 : Int32))]))) (fun _ kk => XS.iinc X9.here hx rfl (hb hby d8_32) rfl rfl (XS.iinc X9.here hx rfl (hb hby d8_35) rfl rfl (XS.iinc X9.here hx rfl (hb hby d8_38) rfl rfl (XS.goto X9.here hx rfl (pc0 := 41) (pc' := 3) rfl (hb hby d8_41) (by decide) (by decide) (XS.iload X9.here hx rfl (hb hby d8_3) rfl (XS.iload X9.here hx rfl (hb hby d8_5) rfl kk)))))) ?_
      refine go_of (B := (T9.setTop (mkF m 12 #[.val (.ref s'), .val (.int (2 : Int32)), .val (.ref d), .val (.int (2 : Int32)), .val (.int (4 : Int32)), .val (.int (2 : Int32)), .val (.int c1)] [(.int (2 : Int32)), (.ref s')]))) (fun _ kk => XS.icmpNo X9.here hx rfl (hb hby d8_7) rfl (tlt (by decide : (2 : Int32) < (4 : Int32))).2.1 (XS.aloadN X9.here hx rfl (hb hby d8_10) rfl rfl (XS.iloadN X9.here hx rfl (hb hby d8_11) rfl kk))) ?_
      have cf_10 := (cf_5.other W9 (by first | omega | exact own_ne (by omega) | exact own_le (by omega) | exact own_lt (by omega)))
      obtain ⟨cl11, Ar11, q11, Sz11, Nn11, Hh11, G11⟩ := id (cf_10)
      refine go_of (B := (T9.setTop (mkF m 20 #[.val (.ref s'), .val (.int (2 : Int32)), .val (.ref d), .val (.int (2 : Int32)), .val (.int (4 : Int32)), .val (.int (2 : Int32)), .val (.int c2)] [(.int (255 : Int32)), (.int c2)]))) (fun _ kk => X9.caload hx (j := (2 : Int32)) (v := (.int c2)) (by rw [e9]; exact Ar11.1) (State.isArrayOf_alike hZ.alike Ar11.2.1) Ar11.2.2 (inb_of Sz11 ⟨by decide, by decide⟩) (Hh11.at (inb_of Sz11 ⟨by decide, by decide⟩) rfl) (g := (mkF m 12 #[.val (.ref s'), .val (.int (2 : Int32)), .val (.ref d), .val (.int (2 : Int32)), .val (.int (4 : Int32)), .val (.int (2 : Int32)), .val (.int c1)] [(.int (2 : Int32)), (.ref s')])) rfl rfl (hb hby d8_12) _ (XS.istore X9.here hx rfl (hb hby d8_13) rfl rfl (XS.iload X9.here hx rfl (hb hby d8_15) rfl (XS.sipush X9.here hx rfl (hb hby d8_17) kk)))) ?_
      by_cases hcc12 : (255 : Int32) < c2
      · refine go_of (B := (T9.setTop (mkF m 25 #[.val (.ref s'), .val (.int (2 : Int32)), .val (.ref d), .val (.int (2 : Int32)), .val (.int (4 : Int32)), .val (.int (2 : Int32)), .val (.int c2)] [(.int (2 : Int32))]))) (fun _ kk => XS.icmpNo X9.here hx rfl (hb hby d8_20) rfl (tlt hcc12).2.2.2 (XS.iload X9.here hx rfl (hb hby d8_23) rfl kk)) ?_
        refine go_end X9 (v := some (.int (2 : Int32))) (fun h => by rw [Bd.returns] at h; cases h) Bd.notSynchronized (by decide) (by decide) (Q := (Q_u_c5_4 Z s' d c0 c1 c2 c3 ks kd h0 n0)) ?_ (fun fs hr => own_retI X9 hx Bd.returns (hb hby d8_25) hr)
        unfold Q_u_c5_4
        try rw [e9]
        exact ⟨_, rfl, N9, (((Keep.refl h0 [d]).wr W4 (Or.inl (List.mem_of_getElem? (i := 0) rfl))).wr W9 (Or.inl (List.mem_of_getElem? (i := 0) rfl))), Or.inr (Or.inr (Or.inr (Or.inl ⟨rfl, hcc12⟩)))⟩
      · refine go_of (B := (T9.setTop (mkF m 31 #[.val (.ref s'), .val (.int (2 : Int32)), .val (.ref d), .val (.int (2 : Int32)), .val (.int (4 : Int32)), .val (.int (2 : Int32)), .val (.int c2)] [(.int (c2.toInt8.toInt32)), (.int (2 : Int32)), (.ref d)]))) (fun _ kk => XS.icmpYes X9.here hx rfl (pc0 := 20) (pc' := 26) rfl (hb hby d8_20) rfl (flt hcc12).2.2.2 (by decide) (by decide) (XS.aloadN X9.here hx rfl (hb hby d8_26) rfl rfl (XS.iloadN X9.here hx rfl (hb hby d8_27) rfl (XS.iload X9.here hx rfl (hb hby d8_28) rfl (XS.i2b X9.here hx rfl (hb hby d8_30) rfl kk))))) ?_
        obtain ⟨cl13, Ar13, q13, Sz13, Nn13, Hh13, G13⟩ := id (V9)
        obtain ⟨T14, h14, X14, e14, W14, st14⟩ := stB X9 hx hZ e9 Ar13 (j := (2 : Int32)) (inb_of Sz13 ⟨by decide, by decide⟩) (g := (mkF m 31 #[.val (.ref s'), .val (.int (2 : Int32)), .val (.ref d), .val (.int (2 : Int32)), .val (.int (4 : Int32)), .val (.int (2 : Int32)), .val (.int c2)] [(.int (c2.toInt8.toInt32)), (.int (2 : Int32)), (.ref d)])) rfl rfl (hb hby d8_31)
        have sz14 := W14.size
        have N14 := Fr.snoc X14 N9 (g : n0 ≤ d)
        have V14 : Arv Z h14 d kd .byte (4 : Int32) [(.int (c0.toInt8.toInt32)), (.int (c1.toInt8.toInt32)), (.int ((c2.toInt8.toInt32).toInt8.toInt32)), (.int (0 : Int32))] (.int (0 : Int32)) := Arv.set Ar13 q13 Sz13 Nn13 Hh13 G13 (fits_nar_byte _) W14 2 rfl (Nat.le_of_ble_eq_true rfl)
        rw [own_bb] at V14
        refine go_of (B := (T14.setTop (mkF m 32 #[.val (.ref s'), .val (.int (2 : Int32)), .val (.ref d), .val (.int (2 : Int32)), .val (.int (4 : Int32)), .val (.int (2 : Int32)), .val (.int c2)] []))) (st14) ?_
        refine go_of (B := (T14.setTop (mkF m 7 #[.val (.ref s'), .val (.int (3 : Int32)), .val (.ref d), .val (.int (3 : Int32)), .val (.int (4 : Int32)), .val (.int (3 : Int32)), .val (.int c2)] [(.int (4 : Int32)), (.int (3 : Int32))]))) (fun _ kk => XS.iinc X14.here hx rfl (hb hby d8_32) rfl rfl (XS.iinc X14.here hx rfl (hb hby d8_35) rfl rfl (XS.iinc X14.here hx rfl (hb hby d8_38) rfl rfl (XS.goto X14.here hx rfl (pc0 := 41) (pc' := 3) rfl (hb hby d8_41) (by decide) (by decide) (XS.iload X14.here hx rfl (hb hby d8_3) rfl (XS.iload X14.here hx rfl (hb hby d8_5) rfl kk)))))) ?_
        refine go_of (B := (T14.setTop (mkF m 12 #[.val (.ref s'), .val (.int (3 : Int32)), .val (.ref d), .val (.int (3 : Int32)), .val (.int (4 : Int32)), .val (.int (3 : Int32)), .val (.int c2)] [(.int (3 : Int32)), (.ref s')]))) (fun _ kk => XS.icmpNo X14.here hx rfl (hb hby d8_7) rfl (tlt (by decide : (3 : Int32) < (4 : Int32))).2.1 (XS.aloadN X14.here hx rfl (hb hby d8_10) rfl rfl (XS.iloadN X14.here hx rfl (hb hby d8_11) rfl kk))) ?_
        have cf_15 := (cf_10.other W14 (by first | omega | exact own_ne (by omega) | exact own_le (by omega) | exact own_lt (by omega)))
        obtain ⟨cl16, Ar16, q16, Sz16, Nn16, Hh16, G16⟩ := id (cf_15)
        refine go_of (B := (T14.setTop (mkF m 20 #[.val (.ref s'), .val (.int (3 : Int32)), .val (.ref d), .val (.int (3 : Int32)), .val (.int (4 : Int32)), .val (.int (3 : Int32)), .val (.int c3)] [(.int (255 : Int32)), (.int c3)]))) (fun _ kk => X14.caload hx (j := (3 : Int32)) (v := (.int c3)) (by rw [e14]; exact Ar16.1) (State.isArrayOf_alike hZ.alike Ar16.2.1) Ar16.2.2 (inb_of Sz16 ⟨by decide, by decide⟩) (Hh16.at (inb_of Sz16 ⟨by decide, by decide⟩) rfl) (g := (mkF m 12 #[.val (.ref s'), .val (.int (3 : Int32)), .val (.ref d), .val (.int (3 : Int32)), .val (.int (4 : Int32)), .val (.int (3 : Int32)), .val (.int c2)] [(.int (3 : Int32)), (.ref s')])) rfl rfl (hb hby d8_12) _ (XS.istore X14.here hx rfl (hb hby d8_13) rfl rfl (XS.iload X14.here hx rfl (hb hby d8_15) rfl (XS.sipush X14.here hx rfl (hb hby d8_17) kk)))) ?_
        by_cases hcc17 : (255 : Int32) < c3
        · refine go_of (B := (T14.setTop (mkF m 25 #[.val (.ref s'), .val (.int (3 : Int32)), .val (.ref d), .val (.int (3 : Int32)), .val (.int (4 : Int32)), .val (.int (3 : Int32)), .val (.int c3)] [(.int (3 : Int32))]))) (fun _ kk => XS.icmpNo X14.here hx rfl (hb hby d8_20) rfl (tlt hcc17).2.2.2 (XS.iload X14.here hx rfl (hb hby d8_23) rfl kk)) ?_
          refine go_end X14 (v := some (.int (3 : Int32))) (fun h => by rw [Bd.returns] at h; cases h) Bd.notSynchronized (by decide) (by decide) (Q := (Q_u_c5_4 Z s' d c0 c1 c2 c3 ks kd h0 n0)) ?_ (fun fs hr => own_retI X14 hx Bd.returns (hb hby d8_25) hr)
          unfold Q_u_c5_4
          try rw [e14]
          exact ⟨_, rfl, N14, ((((Keep.refl h0 [d]).wr W4 (Or.inl (List.mem_of_getElem? (i := 0) rfl))).wr W9 (Or.inl (List.mem_of_getElem? (i := 0) rfl))).wr W14 (Or.inl (List.mem_of_getElem? (i := 0) rfl))), Or.inr (Or.inr (Or.inr (Or.inr (⟨rfl, hcc17⟩))))⟩
        · refine go_of (B := (T14.setTop (mkF m 31 #[.val (.ref s'), .val (.int (3 : Int32)), .val (.ref d), .val (.int (3 : Int32)), .val (.int (4 : Int32)), .val (.int (3 : Int32)), .val (.int c3)] [(.int (c3.toInt8.toInt32)), (.int (3 : Int32)), (.ref d)]))) (fun _ kk => XS.icmpYes X14.here hx rfl (pc0 := 20) (pc' := 26) rfl (hb hby d8_20) rfl (flt hcc17).2.2.2 (by decide) (by decide) (XS.aloadN X14.here hx rfl (hb hby d8_26) rfl rfl (XS.iloadN X14.here hx rfl (hb hby d8_27) rfl (XS.iload X14.here hx rfl (hb hby d8_28) rfl (XS.i2b X14.here hx rfl (hb hby d8_30) rfl kk))))) ?_
          obtain ⟨cl18, Ar18, q18, Sz18, Nn18, Hh18, G18⟩ := id (V14)
          obtain ⟨T19, h19, X19, e19, W19, st19⟩ := stB X14 hx hZ e14 Ar18 (j := (3 : Int32)) (inb_of Sz18 ⟨by decide, by decide⟩) (g := (mkF m 31 #[.val (.ref s'), .val (.int (3 : Int32)), .val (.ref d), .val (.int (3 : Int32)), .val (.int (4 : Int32)), .val (.int (3 : Int32)), .val (.int c3)] [(.int (c3.toInt8.toInt32)), (.int (3 : Int32)), (.ref d)])) rfl rfl (hb hby d8_31)
          have sz19 := W19.size
          have N19 := Fr.snoc X19 N14 (g : n0 ≤ d)
          have V19 : Arv Z h19 d kd .byte (4 : Int32) [(.int (c0.toInt8.toInt32)), (.int (c1.toInt8.toInt32)), (.int (c2.toInt8.toInt32)), (.int ((c3.toInt8.toInt32).toInt8.toInt32))] (.int (0 : Int32)) := Arv.set Ar18 q18 Sz18 Nn18 Hh18 G18 (fits_nar_byte _) W19 3 rfl (Nat.le_of_ble_eq_true rfl)
          rw [own_bb] at V19
          refine go_of (B := (T19.setTop (mkF m 32 #[.val (.ref s'), .val (.int (3 : Int32)), .val (.ref d), .val (.int (3 : Int32)), .val (.int (4 : Int32)), .val (.int (3 : Int32)), .val (.int c3)] []))) (st19) ?_
          refine go_of (B := (T19.setTop (mkF m 7 #[.val (.ref s'), .val (.int (4 : Int32)), .val (.ref d), .val (.int (4 : Int32)), .val (.int (4 : Int32)), .val (.int (4 : Int32)), .val (.int c3)] [(.int (4 : Int32)), (.int (4 : Int32))]))) (fun _ kk => XS.iinc X19.here hx rfl (hb hby d8_32) rfl rfl (XS.iinc X19.here hx rfl (hb hby d8_35) rfl rfl (XS.iinc X19.here hx rfl (hb hby d8_38) rfl rfl (XS.goto X19.here hx rfl (pc0 := 41) (pc' := 3) rfl (hb hby d8_41) (by decide) (by decide) (XS.iload X19.here hx rfl (hb hby d8_3) rfl (XS.iload X19.here hx rfl (hb hby d8_5) rfl kk)))))) ?_
          refine go_of (B := (T19.setTop (mkF m 46 #[.val (.ref s'), .val (.int (4 : Int32)), .val (.ref d), .val (.int (4 : Int32)), .val (.int (4 : Int32)), .val (.int (4 : Int32)), .val (.int c3)] [(.int (4 : Int32))]))) (fun _ kk => XS.icmpYes X19.here hx rfl (pc0 := 7) (pc' := 44) rfl (hb hby d8_7) rfl (flt (by decide : ¬ ((4 : Int32) < (4 : Int32)))).2.1 (by decide) (by decide) (XS.iload X19.here hx rfl (hb hby d8_44) rfl kk)) ?_
          refine go_end X19 (v := some (.int (4 : Int32))) (fun h => by rw [Bd.returns] at h; cases h) Bd.notSynchronized (by decide) (by decide) (Q := (Q_u_c5_4 Z s' d c0 c1 c2 c3 ks kd h0 n0)) ?_ (fun fs hr => own_retI X19 hx Bd.returns (hb hby d8_46) hr)
          unfold Q_u_c5_4
          try rw [e19]
          exact ⟨_, rfl, N19, (((((Keep.refl h0 [d]).wr W4 (Or.inl (List.mem_of_getElem? (i := 0) rfl))).wr W9 (Or.inl (List.mem_of_getElem? (i := 0) rfl))).wr W14 (Or.inl (List.mem_of_getElem? (i := 0) rfl))).wr W19 (Or.inl (List.mem_of_getElem? (i := 0) rfl))), Or.inl ⟨rfl, hcc2, hcc7, hcc12, hcc17, V19⟩⟩
def Q_u_nbl_4 (Z : State)  (h0 : Heap) (n0 : Nat) (v : Option Value) (h : Heap) (L : List Loc) : Prop := v = some (.int 8) ∧ Fr n0 L ∧ h = h0
theorem ef_u_nbl_4 (m : MethodId)   : entryFrame m #[(.int (4 : Int32))] 1 = mkF m 0 #[.val (.int (4 : Int32))] [] := by first | (simp [entryFrame, mkF, argsToLocals, Value.category]; done) | rfl
theorem u_nbl_4 (l : Launch) (Z : State) (a0 : Array Value) (hw : TW a0 Z) (ws : List Jvm.Cond)  (h0 : Heap) (n0 : Nat) (Z0 : n0 ≤ h0.size)  :
    own_MF l Z MN16 jdk_52_method_3_code 1 (some .int) ws (own_R 0 0 0 0) #[(.int (4 : Int32))] h0 (Q_u_nbl_4 Z  h0 n0) := by
  have wd := @own_wd _ _ hw
  refine MetFree.of_bodySF (plainFor_of_name pn_java_lang_StringUTF16) hisR ?_
  intro p e s m args below meth c s₁ Bd hml0 hP hK
  obtain ⟨rfl, hZ, hh⟩ := hP
  have hx := Bd.exec
  have hby := Bd.bytes
  have hml : c.maxLocals = 1 := hml0
  have hown : s.vm.findClass "java/lang/StringUTF16" = some m.cls := findClass_of_methodNamed Bd.named
  have hnm := (name_of_methodNamed Bd.named Bd.method).1
  have X0 : Stand p l e (own_R 0 0 0 0) s m #[(.int (4 : Int32))] below meth c s₁ [] 0 0 := Stand.of_body Bd
  have e0 : s₁.heap = h0 := by rw [← hh, Bd.state]; rfl
  have N0 := Fr.nil n0
  refine go_of (A := s₁.setTop (entryFrame m #[(.int (4 : Int32))] 1)) (B := s₁.setTop (mkF m 0 #[.val (.int (4 : Int32))] [])) (fun _ kk' => castTop (ef_u_nbl_4 m ) kk') ?_
  refine go_of (B := (s₁.setTop (mkF m 56 #[.val (.int (4 : Int32))] [(.int (4 : Int32))]))) (fun _ kk => XS.iloadN X0.here hx rfl (hb hby d20_0) rfl (XS.ifYes X0.here hx rfl (pc0 := 1) (pc' := 12) rfl (hb hby d20_1) rfl ((if0 _ _).trans (flt (by decide : ¬ ((4 : Int32) < (0 : Int32)))).2.1) (by decide) (by decide) (XS.iloadN X0.here hx rfl (hb hby d20_12) rfl (X0.ldcInt hx hown (mvT hZ (wd 91 rfl)) (g := (mkF m 13 #[.val (.int (4 : Int32))] [(.int (4 : Int32))])) rfl (hb hby d20_13) _ (XS.icmpYes X0.here hx rfl (pc0 := 15) (pc' := 55) rfl (hb hby d20_15) rfl (tlt (by decide : (4 : Int32) < (1073741823 : Int32))).1 (by decide) (by decide) (XS.iloadN X0.here hx rfl (hb hby d20_55) rfl kk)))))) ?_
  refine go_of (B := (s₁.setTop (mkF m 58 #[.val (.int (4 : Int32))] [(.int (8 : Int32))]))) (fun _ kk => XS.iconst X0.here hx rfl (hb hby d20_56) (XS.ishl X0.here hx rfl (hb hby d20_57) rfl kk)) ?_
  refine go_end X0 (v := some (.int (8 : Int32))) (fun h => by rw [Bd.returns] at h; cases h) Bd.notSynchronized (by decide) (by decide) (Q := (Q_u_nbl_4 Z  h0 n0)) ?_ (fun fs hr => own_retI X0 hx Bd.returns (hb hby d20_58) hr)
  unfold Q_u_nbl_4
  try rw [e0]
  exact ⟨rfl, N0, rfl⟩
def Q_u_nbf_4 (Z : State)  (h0 : Heap) (n0 : Nat) (v : Option Value) (h : Heap) (L : List Loc) : Prop := ∃ (t : Addr) (k : ClassId), v = some (.ref t) ∧ Fr n0 L ∧ h0.size ≤ t ∧ Keep h0 h [] ∧ Arv Z h t k .byte 8 [(.int 0), (.int 0), (.int 0), (.int 0), (.int 0), (.int 0), (.int 0), (.int 0)] (.int 0)
theorem ef_u_nbf_4 (m : MethodId)   : entryFrame m #[(.int (4 : Int32))] 1 = mkF m 0 #[.val (.int (4 : Int32))] [] := by first | (simp [entryFrame, mkF, argsToLocals, Value.category]; done) | rfl
theorem u_nbf_4 (l : Launch) (Z : State) (a0 : Array Value) (hw : TW a0 Z) (ws : List Jvm.Cond)  (h0 : Heap) (n0 : Nat) (Z0 : n0 ≤ h0.size)  :
    own_MF l Z MN15 jdk_52_method_2_code 1 (some (.array .byte)) ws (own_R 1 1 8 12) #[(.int (4 : Int32))] h0 (Q_u_nbf_4 Z  h0 n0) := by
  have wd := @own_wd _ _ hw
  refine MetFree.of_bodySF (plainFor_of_name pn_java_lang_StringUTF16) hisR ?_
  intro p e s m args below meth c s₁ Bd hml0 hP hK
  obtain ⟨rfl, hZ, hh⟩ := hP
  have hx := Bd.exec
  have hby := Bd.bytes
  have hml : c.maxLocals = 1 := hml0
  have hown : s.vm.findClass "java/lang/StringUTF16" = some m.cls := findClass_of_methodNamed Bd.named
  have hnm := (name_of_methodNamed Bd.named Bd.method).1
  have X0 : Stand p l e (own_R 1 1 8 12) s m #[(.int (4 : Int32))] below meth c s₁ [] 0 0 := Stand.of_body Bd
  have e0 : s₁.heap = h0 := by rw [← hh, Bd.state]; rfl
  have N0 := Fr.nil n0
  refine go_of (A := s₁.setTop (entryFrame m #[(.int (4 : Int32))] 1)) (B := s₁.setTop (mkF m 0 #[.val (.int (4 : Int32))] [])) (fun _ kk' => castTop (ef_u_nbf_4 m ) kk') ?_
  refine go_of (B := (s₁.setTop (mkF m 1 #[.val (.int (4 : Int32))] [(.int (4 : Int32))]))) (fun _ kk => XS.iloadN X0.here hx rfl (hb hby d19_0) rfl kk) ?_
  obtain ⟨_, _, ⟨T1, L1, k1, n1⟩, -, X1, ⟨Lc1, hQ1, l1, y1, z1⟩, st1⟩ := Jvm.LawKit.callS X0 hx (y := MN16) hown (mvT hZ (wd 88 rfl)) (mvT hZ (wd 89 rfl)) (mvT hZ (wd 39 rfl)) (mvT hZ (wd 90 rfl)) (by decide) (backOf (W := 0) (u_nbl_4 l Z a0 hw [] h0 n0 (by first | omega | exact own_ne (by omega) | exact own_le (by omega) | exact own_lt (by omega))) hZ (wd 90 rfl) (wd 39 rfl) (by decide) (by decide)) (g := (mkF m 1 #[.val (.int (4 : Int32))] [(.int (4 : Int32))])) rfl (by rw [hml]; rfl) (argsL := [(.int (4 : Int32))]) (rest := []) (lenOf pd__I_I rfl) rfl (by show 2 * 0 + _ ≤ _; exact Nat.le_of_eq rfl) (hb hby d19_1) (fun _ _ => ⟨rfl, e0, (by decide : 0 + 0 ≤ _), (by decide : 0 + 0 ≤ _)⟩)
  dsimp only [Pt.U, Pt.locs, Pt.cells, Pt.slots] at X1 l1 y1 z1 st1 hQ1
  subst l1 y1 z1
  obtain ⟨rfl, N1q, e1⟩ := hQ1
  have N1 := Fr.app N0 N1q
  refine go_of (B := (T1.setTop (mkF m 4 #[.val (.int (4 : Int32))] [(.int (8 : Int32))]))) (st1) ?_
  obtain ⟨T2, h2, k2, X2, e2, E2, A2, st2⟩ := newP X1 hx hZ (wd 20 rfl) e1 (g := (mkF m 4 #[.val (.int (4 : Int32))] [(.int (8 : Int32))])) rfl (hb hby d19_4) rfl (by decide) (cap := 8) (by decide) (by decide) (by decide) (by decide)
  obtain ⟨b2, g2⟩ : ∃ z, z = h0.size := ⟨_, rfl⟩
  rw [← g2] at A2 st2
  have hi2 := own_nlt A2.lt
  have sz2 := E2.1
  have V2 : Arv Z h2 b2 k2 .byte (8 : Int32) [(.int (0 : Int32)), (.int (0 : Int32)), (.int (0 : Int32)), (.int (0 : Int32)), (.int (0 : Int32)), (.int (0 : Int32)), (.int (0 : Int32)), (.int (0 : Int32))] (.int (0 : Int32)) := (Arv.new A2 (by decide)).pad (pad_rep [] (.int (0 : Int32)) 8)
  refine go_of (B := (T2.setTop (mkF m 6 #[.val (.int (4 : Int32))] [(.ref b2)]))) (st2) ?_
  refine go_end X2 (v := some (.ref b2)) (fun h => by rw [Bd.returns] at h; cases h) Bd.notSynchronized (by decide) (by decide) (Q := (Q_u_nbf_4 Z  h0 n0)) ?_ (fun fs hr => own_retA X2 hx Bd.returns rfl rfl (hb hby d19_6) hr)
  unfold Q_u_nbf_4
  try rw [e2]
  exact ⟨b2, k2, rfl, N1, by omega, ((Keep.refl h0 []).ext E2), V2⟩
def Q_u_tob_4 (Z : State) (s' : Addr) (c0 : Int32) (c1 : Int32) (c2 : Int32) (c3 : Int32) (ks : ClassId) (h0 : Heap) (n0 : Nat) (v : Option Value) (h : Heap) (L : List Loc) : Prop := ∃ (t : Addr) (k : ClassId), v = some (.ref t) ∧ Fr n0 L ∧ h0.size ≤ t ∧ Keep h0 h [] ∧ Arv Z h t k .byte 8 [(.int (own_b0 c0)), (.int (own_b1 c0)), (.int (own_b0 c1)), (.int (own_b1 c1)), (.int (own_b0 c2)), (.int (own_b1 c2)), (.int (own_b0 c3)), (.int (own_b1 c3))] (.int 0)
theorem ef_u_tob_4 (m : MethodId) (s' : Addr)  : entryFrame m #[(.ref s'), (.int (0 : Int32)), (.int (4 : Int32))] 5 = mkF m 0 #[.val (.ref s'), .val (.int (0 : Int32)), .val (.int (4 : Int32)), .unset, .unset] [] := by first | (simp [entryFrame, mkF, argsToLocals, Value.category]; done) | rfl
theorem u_tob_4 (l : Launch) (Z : State) (a0 : Array Value) (hw : TW a0 Z) (ws : List Jvm.Cond) (s' : Addr) (c0 : Int32) (c1 : Int32) (c2 : Int32) (c3 : Int32) (ks : ClassId) (h0 : Heap) (n0 : Nat) (Z0 : n0 ≤ h0.size) (O : Old Z n0 h0) (SU : US Z) (Vs : Arv Z h0 s' ks .char 4 [(.int c0), (.int c1), (.int c2), (.int c3)] (.int 0)) :
    own_MF l Z MN18 jdk_52_method_14_code 5 (some (.array .byte)) ws (own_R 2 1 8 24) #[(.ref s'), (.int (0 : Int32)), (.int (4 : Int32))] h0 (Q_u_tob_4 Z s' c0 c1 c2 c3 ks h0 n0) := by
  have wd := @own_wd _ _ hw
  refine MetFree.of_bodySF (plainFor_of_name pn_java_lang_StringUTF16) hisR ?_
  intro p e s m args below meth c s₁ Bd hml0 hP hK
  obtain ⟨rfl, hZ, hh⟩ := hP
  have hx := Bd.exec
  have hby := Bd.bytes
  have hml : c.maxLocals = 5 := hml0
  have hown : s.vm.findClass "java/lang/StringUTF16" = some m.cls := findClass_of_methodNamed Bd.named
  have hnm := (name_of_methodNamed Bd.named Bd.method).1
  have X0 : Stand p l e (own_R 2 1 8 24) s m #[(.ref s'), (.int (0 : Int32)), (.int (4 : Int32))] below meth c s₁ [] 0 0 := Stand.of_body Bd
  have e0 : s₁.heap = h0 := by rw [← hh, Bd.state]; rfl
  have N0 := Fr.nil n0
  have lts := own_nlt (Vs.lt)
  refine go_of (A := s₁.setTop (entryFrame m #[(.ref s'), (.int (0 : Int32)), (.int (4 : Int32))] 5)) (B := s₁.setTop (mkF m 0 #[.val (.ref s'), .val (.int (0 : Int32)), .val (.int (4 : Int32)), .unset, .unset] [])) (fun _ kk' => castTop (ef_u_tob_4 m s') kk') ?_
  refine go_of (B := (s₁.setTop (mkF m 1 #[.val (.ref s'), .val (.int (0 : Int32)), .val (.int (4 : Int32)), .unset, .unset] [(.int (4 : Int32))]))) (fun _ kk => XS.iloadN X0.here hx rfl (hb hby d18_0) rfl kk) ?_
  obtain ⟨_, _, ⟨T1, L1, k1, n1⟩, -, X1, ⟨Lc1, hQ1, l1, y1, z1⟩, st1⟩ := Jvm.LawKit.callS X0 hx (y := MN15) hown (mvT hZ (wd 85 rfl)) (mvT hZ (wd 86 rfl)) (mvT hZ (wd 39 rfl)) (mvT hZ (wd 87 rfl)) (by decide) (backOf (W := 0) (u_nbf_4 l Z a0 hw [] h0 n0 (by first | omega | exact own_ne (by omega) | exact own_le (by omega) | exact own_lt (by omega))) hZ (wd 87 rfl) (wd 39 rfl) (by decide) (by decide)) (g := (mkF m 1 #[.val (.ref s'), .val (.int (0 : Int32)), .val (.int (4 : Int32)), .unset, .unset] [(.int (4 : Int32))])) rfl (by rw [hml]; rfl) (argsL := [(.int (4 : Int32))]) (rest := []) (lenOf pd__I__B rfl) rfl (by show 2 * 0 + _ ≤ _; exact Nat.le_of_eq rfl) (hb hby d18_1) (fun _ _ => ⟨rfl, e0, (by decide : 0 + 1 ≤ _), (by decide : 0 + 8 ≤ _)⟩)
  dsimp only [Pt.U, Pt.locs, Pt.cells, Pt.slots] at X1 l1 y1 z1 st1 hQ1
  subst l1 y1 z1
  obtain ⟨b1, k1, rfl, N1q, lo1, K1, V1⟩ := hQ1
  have lo1 := own_nle lo1
  have N1 := Fr.app N0 N1q
  have hi1 := own_nlt (V1.lt)
  have sz1 := K1.1
  refine go_of (B := (T1.setTop (mkF m 4 #[.val (.ref s'), .val (.int (0 : Int32)), .val (.int (4 : Int32)), .unset, .unset] [(.ref b1)]))) (st1) ?_
  refine go_of (B := (T1.setTop (mkF m 14 #[.val (.ref s'), .val (.int (0 : Int32)), .val (.int (4 : Int32)), .val (.ref b1), .val (.int (0 : Int32))] []))) (fun _ kk => XS.astoreN X1.here hx rfl (hb hby d18_4) rfl rfl rfl (XS.iconst X1.here hx rfl (hb hby d18_5) (XS.istore X1.here hx rfl (hb hby d18_6) rfl rfl (XS.iload X1.here hx rfl (hb hby d18_8) rfl (XS.iloadN X1.here hx rfl (hb hby d18_10) rfl (XS.icmpNo X1.here hx rfl (hb hby d18_11) rfl (tlt (by decide : (0 : Int32) < (4 : Int32))).2.1 kk)))))) ?_
  refine go_of (B := (T1.setTop (mkF m 19 #[.val (.ref s'), .val (.int (0 : Int32)), .val (.int (4 : Int32)), .val (.ref b1), .val (.int (0 : Int32))] [(.int (0 : Int32)), (.ref s'), (.int (0 : Int32)), (.ref b1)]))) (fun _ kk => XS.aloadN X1.here hx rfl (hb hby d18_14) rfl rfl (XS.iload X1.here hx rfl (hb hby d18_15) rfl (XS.aloadN X1.here hx rfl (hb hby d18_17) rfl rfl (XS.iloadN X1.here hx rfl (hb hby d18_18) rfl kk)))) ?_
  have cf_2 := (Vs.keep K1 nin0)
  obtain ⟨cl3, Ar3, q3, Sz3, Nn3, Hh3, G3⟩ := id (cf_2)
  refine go_of (B := (T1.setTop (mkF m 20 #[.val (.ref s'), .val (.int (0 : Int32)), .val (.int (4 : Int32)), .val (.ref b1), .val (.int (0 : Int32))] [(.int c0), (.int (0 : Int32)), (.ref b1)]))) (fun _ kk => X1.caload hx (j := (0 : Int32)) (v := (.int c0)) (by exact Ar3.1) (State.isArrayOf_alike hZ.alike Ar3.2.1) Ar3.2.2 (inb_of Sz3 ⟨by decide, by decide⟩) (Hh3.at (inb_of Sz3 ⟨by decide, by decide⟩) rfl) (g := (mkF m 19 #[.val (.ref s'), .val (.int (0 : Int32)), .val (.int (4 : Int32)), .val (.ref b1), .val (.int (0 : Int32))] [(.int (0 : Int32)), (.ref s'), (.int (0 : Int32)), (.ref b1)])) rfl rfl (hb hby d18_19) _ kk) ?_
  have cf_4 := (O.keep K1 all0)
  obtain ⟨_, _, ⟨T5, L5, k5, n5⟩, -, X5, ⟨Lc5, hQ5, l5, y5, z5⟩, st5⟩ := Jvm.LawKit.callS X1 hx (y := MN17) hown (mvT hZ (wd 92 rfl)) (mvT hZ (wd 93 rfl)) (mvT hZ (wd 39 rfl)) (mvT hZ (wd 94 rfl)) (by decide) (backOf (W := 0) (u_put l Z a0 hw [] b1 (0 : Int32) c0 (8 : Int32) _ 0 1 k1 T1.heap n0 (by first | omega | exact own_ne (by omega) | exact own_le (by omega) | exact own_lt (by omega)) cf_4 SU V1 (by first | omega | exact own_ne (by omega) | exact own_le (by omega) | exact own_lt (by omega)) (by decide) (by decide) rfl rfl (Nat.le_of_ble_eq_true rfl) (Nat.le_of_ble_eq_true rfl)) hZ (wd 94 rfl) (wd 39 rfl) (by decide) (by decide)) (g := (mkF m 20 #[.val (.ref s'), .val (.int (0 : Int32)), .val (.int (4 : Int32)), .val (.ref b1), .val (.int (0 : Int32))] [(.int c0), (.int (0 : Int32)), (.ref b1)])) rfl (by rw [hml]; rfl) (argsL := [(.ref b1), (.int (0 : Int32)), (.int c0)]) (rest := []) (lenOf pd___BII_V rfl) rfl (by show 2 * 0 + _ ≤ _; exact Nat.le_of_eq rfl) (hb hby d18_20) (fun _ _ => ⟨rfl, rfl, (by decide : 1 + 0 ≤ _), (by decide : 8 + 0 ≤ _)⟩)
  dsimp only [Pt.U, Pt.locs, Pt.cells, Pt.slots] at X5 l5 y5 z5 st5 hQ5
  subst l5 y5 z5
  obtain ⟨rfl, N5q, K5, V5⟩ := hQ5
  have N5 := Fr.app N1 N5q
  have sz5 := K5.1
  refine go_of (B := (T5.setTop (mkF m 23 #[.val (.ref s'), .val (.int (0 : Int32)), .val (.int (4 : Int32)), .val (.ref b1), .val (.int (0 : Int32))] []))) (st5) ?_
  refine go_of (B := (T5.setTop (mkF m 14 #[.val (.ref s'), .val (.int (1 : Int32)), .val (.int (4 : Int32)), .val (.ref b1), .val (.int (1 : Int32))] []))) (fun _ kk => XS.iinc X5.here hx rfl (hb hby d18_23) rfl rfl (XS.iinc X5.here hx rfl (hb hby d18_26) rfl rfl (XS.goto X5.here hx rfl (pc0 := 29) (pc' := 8) rfl (hb hby d18_29) (by decide) (by decide) (XS.iload X5.here hx rfl (hb hby d18_8) rfl (XS.iloadN X5.here hx rfl (hb hby d18_10) rfl (XS.icmpNo X5.here hx rfl (hb hby d18_11) rfl (tlt (by decide : (1 : Int32) < (4 : Int32))).2.1 kk)))))) ?_
  refine go_of (B := (T5.setTop (mkF m 19 #[.val (.ref s'), .val (.int (1 : Int32)), .val (.int (4 : Int32)), .val (.ref b1), .val (.int (1 : Int32))] [(.int (1 : Int32)), (.ref s'), (.int (1 : Int32)), (.ref b1)]))) (fun _ kk => XS.aloadN X5.here hx rfl (hb hby d18_14) rfl rfl (XS.iload X5.here hx rfl (hb hby d18_15) rfl (XS.aloadN X5.here hx rfl (hb hby d18_17) rfl rfl (XS.iloadN X5.here hx rfl (hb hby d18_18) rfl kk)))) ?_
  have cf_6 := (cf_2.keep K5 (ninS (by first | omega | exact own_ne (by omega) | exact own_le (by omega) | exact own_lt (by omega)) nin0))
  obtain ⟨cl7, Ar7, q7, Sz7, Nn7, Hh7, G7⟩ := id (cf_6)
  refine go_of (B := (T5.setTop (mkF m 20 #[.val (.ref s'), .val (.int (1 : Int32)), .val (.int (4 : Int32)), .val (.ref b1), .val (.int (1 : Int32))] [(.int c1), (.int (1 : Int32)), (.ref b1)]))) (fun _ kk => X5.caload hx (j := (1 : Int32)) (v := (.int c1)) (by exact Ar7.1) (State.isArrayOf_alike hZ.alike Ar7.2.1) Ar7.2.2 (inb_of Sz7 ⟨by decide, by decide⟩) (Hh7.at (inb_of Sz7 ⟨by decide, by decide⟩) rfl) (g := (mkF m 19 #[.val (.ref s'), .val (.int (1 : Int32)), .val (.int (4 : Int32)), .val (.ref b1), .val (.int (1 : Int32))] [(.int (1 : Int32)), (.ref s'), (.int (1 : Int32)), (.ref b1)])) rfl rfl (hb hby d18_19) _ kk) ?_
  have cf_8 := (cf_4.keep K5 (allS (by first | omega | exact own_ne (by omega) | exact own_le (by omega) | exact own_lt (by omega)) all0))
  obtain ⟨_, _, ⟨T9, L9, k9, n9⟩, -, X9, ⟨Lc9, hQ9, l9, y9, z9⟩, st9⟩ := Jvm.LawKit.callS X5 hx (y := MN17) hown (mvT hZ (wd 92 rfl)) (mvT hZ (wd 93 rfl)) (mvT hZ (wd 39 rfl)) (mvT hZ (wd 94 rfl)) (by decide) (backOf (W := 0) (u_put l Z a0 hw [] b1 (1 : Int32) c1 (8 : Int32) _ 2 3 k1 T5.heap n0 (by first | omega | exact own_ne (by omega) | exact own_le (by omega) | exact own_lt (by omega)) cf_8 SU V5 (by first | omega | exact own_ne (by omega) | exact own_le (by omega) | exact own_lt (by omega)) (by decide) (by decide) rfl rfl (Nat.le_of_ble_eq_true rfl) (Nat.le_of_ble_eq_true rfl)) hZ (wd 94 rfl) (wd 39 rfl) (by decide) (by decide)) (g := (mkF m 20 #[.val (.ref s'), .val (.int (1 : Int32)), .val (.int (4 : Int32)), .val (.ref b1), .val (.int (1 : Int32))] [(.int c1), (.int (1 : Int32)), (.ref b1)])) rfl (by rw [hml]; rfl) (argsL := [(.ref b1), (.int (1 : Int32)), (.int c1)]) (rest := []) (lenOf pd___BII_V rfl) rfl (by show 2 * 0 + _ ≤ _; exact Nat.le_of_eq rfl) (hb hby d18_20) (fun _ _ => ⟨rfl, rfl, (by decide : 1 + 0 ≤ _), (by decide : 8 + 0 ≤ _)⟩)
  dsimp only [Pt.U, Pt.locs, Pt.cells, Pt.slots] at X9 l9 y9 z9 st9 hQ9
  subst l9 y9 z9
  obtain ⟨rfl, N9q, K9, V9⟩ := hQ9
  have N9 := Fr.app N5 N9q
  have sz9 := K9.1
  refine go_of (B := (T9.setTop (mkF m 23 #[.val (.ref s'), .val (.int (1 : Int32)), .val (.int (4 : Int32)), .val (.ref b1), .val (.int (1 : Int32))] []))) (st9) ?_
  refine go_of (B := (T9.setTop (mkF m 14 #[.val (.ref s'), .val (.int (2 : Int32)), .val (.int (4 : Int32)), .val (.ref b1), .val (.int (2 : Int32))] []))) (fun _ kk => XS.iinc X9.here hx rfl (hb hby d18_23) rfl rfl (XS.iinc X9.here hx rfl (hb hby d18_26) rfl rfl (XS.goto X9.here hx rfl (pc0 := 29) (pc' := 8) rfl (hb hby d18_29) (by decide) (by decide) (XS.iload X9.here hx rfl (hb hby d18_8) rfl (XS.iloadN X9.here hx rfl (hb hby d18_10) rfl (XS.icmpNo X9.here hx rfl (hb hby d18_11) rfl (tlt (by decide : (2 : Int32) < (4 : Int32))).2.1 kk)))))) ?_
  refine go_of (B := (T9.setTop (mkF m 19 #[.val (.ref s'), .val (.int (2 : Int32)), .val (.int (4 : Int32)), .val (.ref b1), .val (.int (2 : Int32))] [(.int (2 : Int32)), (.ref s'), (.int (2 : Int32)), (.ref b1)]))) (fun _ kk => XS.aloadN X9.here hx rfl (hb hby d18_14) rfl rfl (XS.iload X9.here hx rfl (hb hby d18_15) rfl (XS.aloadN X9.here hx rfl (hb hby d18_17) rfl rfl (XS.iloadN X9.here hx rfl (hb hby d18_18) rfl kk)))) ?_
  have cf_10 := (cf_6.keep K9 (ninS (by first | omega | exact own_ne (by omega) | exact own_le (by omega) | exact own_lt (by omega)) nin0))
  obtain ⟨cl11, Ar11, q11, Sz11, Nn11, Hh11, G11⟩ := id (cf_10)
  refine go_of (B := (T9.setTop (mkF m 20 #[.val (.ref s'), .val (.int (2 : Int32)), .val (.int (4 : Int32)), .val (.ref b1), .val (.int (2 : Int32))] [(.int c2), (.int (2 : Int32)), (.ref b1)]))) (fun _ kk => X9.caload hx (j := (2 : Int32)) (v := (.int c2)) (by exact Ar11.1) (State.isArrayOf_alike hZ.alike Ar11.2.1) Ar11.2.2 (inb_of Sz11 ⟨by decide, by decide⟩) (Hh11.at (inb_of Sz11 ⟨by decide, by decide⟩) rfl) (g := (mkF m 19 #[.val (.ref s'), .val (.int (2 : Int32)), .val (.int (4 : Int32)), .val (.ref b1), .val (.int (2 : Int32))] [(.int (2 : Int32)), (.ref s'), (.int (2 : Int32)), (.ref b1)])) rfl rfl (hb hby d18_19) _ kk) ?_
  have cf_12 := (cf_8.keep K9 (allS (by first | omega | exact own_ne (by omega) | exact own_le (by omega) | exact own_lt (by omega)) all0))
  obtain ⟨_, _, ⟨T13, L13, k13, n13⟩, -, X13, ⟨Lc13, hQ13, l13, y13, z13⟩, st13⟩ := Jvm.LawKit.callS X9 hx (y := MN17) hown (mvT hZ (wd 92 rfl)) (mvT hZ (wd 93 rfl)) (mvT hZ (wd 39 rfl)) (mvT hZ (wd 94 rfl)) (by decide) (backOf (W := 0) (u_put l Z a0 hw [] b1 (2 : Int32) c2 (8 : Int32) _ 4 5 k1 T9.heap n0 (by first | omega | exact own_ne (by omega) | exact own_le (by omega) | exact own_lt (by omega)) cf_12 SU V9 (by first | omega | exact own_ne (by omega) | exact own_le (by omega) | exact own_lt (by omega)) (by decide) (by decide) rfl rfl (Nat.le_of_ble_eq_true rfl) (Nat.le_of_ble_eq_true rfl)) hZ (wd 94 rfl) (wd 39 rfl) (by decide) (by decide)) (g := (mkF m 20 #[.val (.ref s'), .val (.int (2 : Int32)), .val (.int (4 : Int32)), .val (.ref b1), .val (.int (2 : Int32))] [(.int c2), (.int (2 : Int32)), (.ref b1)])) rfl (by rw [hml]; rfl) (argsL := [(.ref b1), (.int (2 : Int32)), (.int c2)]) (rest := []) (lenOf pd___BII_V rfl) rfl (by show 2 * 0 + _ ≤ _; exact Nat.le_of_eq rfl) (hb hby d18_20) (fun _ _ => ⟨rfl, rfl, (by decide : 1 + 0 ≤ _), (by decide : 8 + 0 ≤ _)⟩)
  dsimp only [Pt.U, Pt.locs, Pt.cells, Pt.slots] at X13 l13 y13 z13 st13 hQ13
  subst l13 y13 z13
  obtain ⟨rfl, N13q, K13, V13⟩ := hQ13
  have N13 := Fr.app N9 N13q
  have sz13 := K13.1
  refine go_of (B := (T13.setTop (mkF m 23 #[.val (.ref s'), .val (.int (2 : Int32)), .val (.int (4 : Int32)), .val (.ref b1), .val (.int (2 : Int32))] []))) (st13) ?_
  refine go_of (B := (T13.setTop (mkF m 14 #[.val (.ref s'), .val (.int (3 : Int32)), .val (.int (4 : Int32)), .val (.ref b1), .val (.int (3 : Int32))] []))) (fun _ kk => XS.iinc X13.here hx rfl (hb hby d18_23) rfl rfl (XS.iinc X13.here hx rfl (hb hby d18_26) rfl rfl (XS.goto X13.here hx rfl (pc0 := 29) (pc' := 8) rfl (hb hby d18_29) (by decide) (by decide) (XS.iload X13.here hx rfl (hb hby d18_8) rfl (XS.iloadN X13.here hx rfl (hb hby d18_10) rfl (XS.icmpNo X13.here hx rfl (hb hby d18_11) rfl (tlt (by decide : (3 : Int32) < (4 : Int32))).2.1 kk)))))) ?_
  refine go_of (B := (T13.setTop (mkF m 19 #[.val (.ref s'), .val (.int (3 : Int32)), .val (.int (4 : Int32)), .val (.ref b1), .val (.int (3 : Int32))] [(.int (3 : Int32)), (.ref s'), (.int (3 : Int32)), (.ref b1)]))) (fun _ kk => XS.aloadN X13.here hx rfl (hb hby d18_14) rfl rfl (XS.iload X13.here hx rfl (hb hby d18_15) rfl (XS.aloadN X13.here hx rfl (hb hby d18_17) rfl rfl (XS.iloadN X13.here hx rfl (hb hby d18_18) rfl kk)))) ?_
  have cf_14 := (cf_10.keep K13 (ninS (by first | omega | exact own_ne (by omega) | exact own_le (by omega) | exact own_lt (by omega)) nin0))
  obtain ⟨cl15, Ar15, q15, Sz15, Nn15, Hh15, G15⟩ := id (cf_14)
  refine go_of (B := (T13.setTop (mkF m 20 #[.val (.ref s'), .val (.int (3 : Int32)), .val (.int (4 : Int32)), .val (.ref b1), .val (.int (3 : Int32))] [(.int c3), (.int (3 : Int32)), (.ref b1)]))) (fun _ kk => X13.caload hx (j := (3 : Int32)) (v := (.int c3)) (by exact Ar15.1) (State.isArrayOf_alike hZ.alike Ar15.2.1) Ar15.2.2 (inb_of Sz15 ⟨by decide, by decide⟩) (Hh15.at (inb_of Sz15 ⟨by decide, by decide⟩) rfl) (g := (mkF m 19 #[.val (.ref s'), .val (.int (3 : Int32)), .val (.int (4 : Int32)), .val (.ref b1), .val (.int (3 : Int32))] [(.int (3 : Int32)), (.ref s'), (.int (3 : Int32)), (.ref b1)])) rfl rfl (hb hby d18_19) _ kk) ?_
  have cf_16 := (cf_12.keep K13 (allS (by first | omega | exact own_ne (by omega) | exact own_le (by omega) | exact own_lt (by omega)) all0))
  obtain ⟨_, _, ⟨T17, L17, k17, n17⟩, -, X17, ⟨Lc17, hQ17, l17, y17, z17⟩, st17⟩ := Jvm.LawKit.callS X13 hx (y := MN17) hown (mvT hZ (wd 92 rfl)) (mvT hZ (wd 93 rfl)) (mvT hZ (wd 39 rfl)) (mvT hZ (wd 94 rfl)) (by decide) (backOf (W := 0) (u_put l Z a0 hw [] b1 (3 : Int32) c3 (8 : Int32) _ 6 7 k1 T13.heap n0 (by first | omega | exact own_ne (by omega) | exact own_le (by omega) | exact own_lt (by omega)) cf_16 SU V13 (by first | omega | exact own_ne (by omega) | exact own_le (by omega) | exact own_lt (by omega)) (by decide) (by decide) rfl rfl (Nat.le_of_ble_eq_true rfl) (Nat.le_of_ble_eq_true rfl)) hZ (wd 94 rfl) (wd 39 rfl) (by decide) (by decide)) (g := (mkF m 20 #[.val (.ref s'), .val (.int (3 : Int32)), .val (.int (4 : Int32)), .val (.ref b1), .val (.int (3 : Int32))] [(.int c3), (.int (3 : Int32)), (.ref b1)])) rfl (by rw [hml]; rfl) (argsL := [(.ref b1), (.int (3 : Int32)), (.int c3)]) (rest := []) (lenOf pd___BII_V rfl) rfl (by show 2 * 0 + _ ≤ _; exact Nat.le_of_eq rfl) (hb hby d18_20) (fun _ _ => ⟨rfl, rfl, (by decide : 1 + 0 ≤ _), (by decide : 8 + 0 ≤ _)⟩)
  dsimp only [Pt.U, Pt.locs, Pt.cells, Pt.slots] at X17 l17 y17 z17 st17 hQ17
  subst l17 y17 z17
  obtain ⟨rfl, N17q, K17, V17⟩ := hQ17
  have N17 := Fr.app N13 N17q
  have sz17 := K17.1
  refine go_of (B := (T17.setTop (mkF m 23 #[.val (.ref s'), .val (.int (3 : Int32)), .val (.int (4 : Int32)), .val (.ref b1), .val (.int (3 : Int32))] []))) (st17) ?_
  refine go_of (B := (T17.setTop (mkF m 32 #[.val (.ref s'), .val (.int (4 : Int32)), .val (.int (4 : Int32)), .val (.ref b1), .val (.int (4 : Int32))] []))) (fun _ kk => XS.iinc X17.here hx rfl (hb hby d18_23) rfl rfl (XS.iinc X17.here hx rfl (hb hby d18_26) rfl rfl (XS.goto X17.here hx rfl (pc0 := 29) (pc' := 8) rfl (hb hby d18_29) (by decide) (by decide) (XS.iload X17.here hx rfl (hb hby d18_8) rfl (XS.iloadN X17.here hx rfl (hb hby d18_10) rfl (XS.icmpYes X17.here hx rfl (pc0 := 11) (pc' := 32) rfl (hb hby d18_11) rfl (flt (by decide : ¬ ((4 : Int32) < (4 : Int32)))).2.1 (by decide) (by decide) kk)))))) ?_
  refine go_of (B := (T17.setTop (mkF m 33 #[.val (.ref s'), .val (.int (4 : Int32)), .val (.int (4 : Int32)), .val (.ref b1), .val (.int (4 : Int32))] [(.ref b1)]))) (fun _ kk => XS.aloadN X17.here hx rfl (hb hby d18_32) rfl rfl kk) ?_
  refine go_end X17 (v := some (.ref b1)) (fun h => by rw [Bd.returns] at h; cases h) Bd.notSynchronized (by decide) (by decide) (Q := (Q_u_tob_4 Z s' c0 c1 c2 c3 ks h0 n0)) ?_ (fun fs hr => own_retA X17 hx Bd.returns rfl rfl (hb hby d18_33) hr)
  unfold Q_u_tob_4
  exact ⟨b1, k1, rfl, N17, by omega, ((((((Keep.refl h0 []).trans K1 all0).trans K5 (allS (Or.inr (by first | omega | exact own_ne (by omega) | exact own_le (by omega) | exact own_lt (by omega))) all0)).trans K9 (allS (Or.inr (by first | omega | exact own_ne (by omega) | exact own_le (by omega) | exact own_lt (by omega))) all0)).trans K13 (allS (Or.inr (by first | omega | exact own_ne (by omega) | exact own_le (by omega) | exact own_lt (by omega))) all0)).trans K17 (allS (Or.inr (by first | omega | exact own_ne (by omega) | exact own_le (by omega) | exact own_lt (by omega))) all0)), V17⟩
def Q_u_c3_4 (Z : State) (s' : Addr) (c0 : Int32) (c1 : Int32) (c2 : Int32) (c3 : Int32) (ks : ClassId) (h0 : Heap) (n0 : Nat) (v : Option Value) (h : Heap) (L : List Loc) : Prop := ∃ (t : Addr) (k : ClassId), v = some (.ref t) ∧ Fr n0 L ∧ h0.size ≤ t ∧ Keep h0 h [] ∧ ((¬ (255 : Int32) < c0 ∧ ¬ (255 : Int32) < c1 ∧ ¬ (255 : Int32) < c2 ∧ ¬ (255 : Int32) < c3 ∧ Arv Z h t k .byte 4 [(.int (own_b8 c0)), (.int (own_b8 c1)), (.int (own_b8 c2)), (.int (own_b8 c3))] (.int 0)) ∨ Arv Z h t k .byte 8 [(.int (own_b0 c0)), (.int (own_b1 c0)), (.int (own_b0 c1)), (.int (own_b1 c1)), (.int (own_b0 c2)), (.int (own_b1 c2)), (.int (own_b0 c3)), (.int (own_b1 c3))] (.int 0))
theorem ef_u_c3_4 (m : MethodId) (s' : Addr)  : entryFrame m #[(.ref s'), (.int (0 : Int32)), (.int (4 : Int32))] 6 = mkF m 0 #[.val (.ref s'), .val (.int (0 : Int32)), .val (.int (4 : Int32)), .unset, .unset, .unset] [] := by first | (simp [entryFrame, mkF, argsToLocals, Value.category]; done) | rfl
theorem u_c3_4 (l : Launch) (Z : State) (a0 : Array Value) (hw : TW a0 Z) (ws : List Jvm.Cond) (s' : Addr) (c0 : Int32) (c1 : Int32) (c2 : Int32) (c3 : Int32) (ks : ClassId) (h0 : Heap) (n0 : Nat) (Z0 : n0 ≤ h0.size) (O : Old Z n0 h0) (SU : US Z) (Vs : Arv Z h0 s' ks .char 4 [(.int c0), (.int c1), (.int c2), (.int c3)] (.int 0)) (hc0 : ¬ c0 < 0 ∧ ¬ (65535 : Int32) < c0) (hc1 : ¬ c1 < 0 ∧ ¬ (65535 : Int32) < c1) (hc2 : ¬ c2 < 0 ∧ ¬ (65535 : Int32) < c2) (hc3 : ¬ c3 < 0 ∧ ¬ (65535 : Int32) < c3) :
    own_MF l Z MN12 jdk_52_method_16_code 6 (some (.array .byte)) ws (own_R 3 2 12 40) #[(.ref s'), (.int (0 : Int32)), (.int (4 : Int32))] h0 (Q_u_c3_4 Z s' c0 c1 c2 c3 ks h0 n0) := by
  have wd := @own_wd _ _ hw
  refine MetFree.of_bodySF (plainFor_of_name pn_java_lang_StringUTF16) hisR ?_
  intro p e s m args below meth c s₁ Bd hml0 hP hK
  obtain ⟨rfl, hZ, hh⟩ := hP
  have hx := Bd.exec
  have hby := Bd.bytes
  have hml : c.maxLocals = 6 := hml0
  have hown : s.vm.findClass "java/lang/StringUTF16" = some m.cls := findClass_of_methodNamed Bd.named
  have hnm := (name_of_methodNamed Bd.named Bd.method).1
  have X0 : Stand p l e (own_R 3 2 12 40) s m #[(.ref s'), (.int (0 : Int32)), (.int (4 : Int32))] below meth c s₁ [] 0 0 := Stand.of_body Bd
  have e0 : s₁.heap = h0 := by rw [← hh, Bd.state]; rfl
  have N0 := Fr.nil n0
  have lts := own_nlt (Vs.lt)
  refine go_of (A := s₁.setTop (entryFrame m #[(.ref s'), (.int (0 : Int32)), (.int (4 : Int32))] 6)) (B := s₁.setTop (mkF m 0 #[.val (.ref s'), .val (.int (0 : Int32)), .val (.int (4 : Int32)), .unset, .unset, .unset] [])) (fun _ kk' => castTop (ef_u_c3_4 m s') kk') ?_
  refine go_of (B := (s₁.setTop (mkF m 1 #[.val (.ref s'), .val (.int (0 : Int32)), .val (.int (4 : Int32)), .unset, .unset, .unset] [(.int (4 : Int32))]))) (fun _ kk => XS.iloadN X0.here hx rfl (hb hby d7_0) rfl kk) ?_
  obtain ⟨T1, h1, k1, X1, e1, E1, A1, st1⟩ := newP X0 hx hZ (wd 20 rfl) e0 (g := (mkF m 1 #[.val (.ref s'), .val (.int (0 : Int32)), .val (.int (4 : Int32)), .unset, .unset, .unset] [(.int (4 : Int32))])) rfl (hb hby d7_1) rfl (by decide) (cap := 4) (by decide) (by decide) (by decide) (by decide)
  obtain ⟨b1, g1⟩ : ∃ z, z = h0.size := ⟨_, rfl⟩
  rw [← g1] at A1 st1
  have hi1 := own_nlt A1.lt
  have sz1 := E1.1
  have V1 : Arv Z h1 b1 k1 .byte (4 : Int32) [(.int (0 : Int32)), (.int (0 : Int32)), (.int (0 : Int32)), (.int (0 : Int32))] (.int (0 : Int32)) := (Arv.new A1 (by decide)).pad (pad_rep [] (.int (0 : Int32)) 4)
  refine go_of (B := (T1.setTop (mkF m 3 #[.val (.ref s'), .val (.int (0 : Int32)), .val (.int (4 : Int32)), .unset, .unset, .unset] [(.ref b1)]))) (st1) ?_
  refine go_of (B := (T1.setTop (mkF m 9 #[.val (.ref s'), .val (.int (0 : Int32)), .val (.int (4 : Int32)), .val (.ref b1), .unset, .unset] [(.int (4 : Int32)), (.int (0 : Int32)), (.ref b1), (.int (0 : Int32)), (.ref s')]))) (fun _ kk => XS.astoreN X1.here hx rfl (hb hby d7_3) rfl rfl rfl (XS.aloadN X1.here hx rfl (hb hby d7_4) rfl rfl (XS.iloadN X1.here hx rfl (hb hby d7_5) rfl (XS.aloadN X1.here hx rfl (hb hby d7_6) rfl rfl (XS.iconst X1.here hx rfl (hb hby d7_7) (XS.iloadN X1.here hx rfl (hb hby d7_8) rfl kk)))))) ?_
  have cf_2 := (Vs.ext E1)
  obtain ⟨_, _, ⟨T3, L3, k3, n3⟩, -, X3, ⟨Lc3, hQ3, l3, y3, z3⟩, st3⟩ := Jvm.LawKit.callS X1 hx (y := MN13) hown (mvT hZ (wd 41 rfl)) (mvT hZ (wd 42 rfl)) (mvT hZ (wd 39 rfl)) (mvT hZ (wd 43 rfl)) (by decide) (backOf (W := 0) (u_c5_4 l Z a0 hw [] s' b1 c0 c1 c2 c3 ks k1 h1 n0 (by first | omega | exact own_ne (by omega) | exact own_le (by omega) | exact own_lt (by omega)) cf_2 V1 (by first | omega | exact own_ne (by omega) | exact own_le (by omega) | exact own_lt (by omega)) (by first | omega | exact own_ne (by omega) | exact own_le (by omega) | exact own_lt (by omega))) hZ (wd 43 rfl) (wd 39 rfl) (by decide) (by decide)) (g := (mkF m 9 #[.val (.ref s'), .val (.int (0 : Int32)), .val (.int (4 : Int32)), .val (.ref b1), .unset, .unset] [(.int (4 : Int32)), (.int (0 : Int32)), (.ref b1), (.int (0 : Int32)), (.ref s')])) rfl (by rw [hml]; rfl) (argsL := [(.ref s'), (.int (0 : Int32)), (.ref b1), (.int (0 : Int32)), (.int (4 : Int32))]) (rest := []) (lenOf pd___CI_BII_I rfl) rfl (by show 2 * 0 + _ ≤ _; exact Nat.le_of_eq rfl) (hb hby d7_9) (fun _ _ => ⟨rfl, e1, (by decide : 1 + 0 ≤ _), (by decide : 4 + 0 ≤ _)⟩)
  dsimp only [Pt.U, Pt.locs, Pt.cells, Pt.slots] at X3 l3 y3 z3 st3 hQ3
  subst l3 y3 z3
  obtain ⟨r3, rfl, N3q, K3, H3⟩ := hQ3
  have N3 := Fr.app N0 N3q
  have sz3 := K3.1
  refine go_of (B := (T3.setTop (mkF m 12 #[.val (.ref s'), .val (.int (0 : Int32)), .val (.int (4 : Int32)), .val (.ref b1), .unset, .unset] [(.int r3)]))) (st3) ?_
  rcases H3 with ⟨rfl, hl0, hl1, hl2, hl3, V3⟩ | ⟨rfl, hg⟩ | ⟨rfl, hg⟩ | ⟨rfl, hg⟩ | ⟨rfl, hg⟩
  · refine go_of (B := (T3.setTop (mkF m 58 #[.val (.ref s'), .val (.int (0 : Int32)), .val (.int (4 : Int32)), .val (.ref b1), .val (.int (4 : Int32)), .unset] [(.ref b1)]))) (fun _ kk => XS.istore X3.here hx rfl (hb hby d7_12) rfl rfl (XS.iload X3.here hx rfl (hb hby d7_14) rfl (XS.iloadN X3.here hx rfl (hb hby d7_16) rfl (XS.icmpYes X3.here hx rfl (pc0 := 17) (pc' := 57) rfl (hb hby d7_17) rfl (teq (by decide : (4 : Int32) = (4 : Int32))).1 (by decide) (by decide) (XS.aloadN X3.here hx rfl (hb hby d7_57) rfl rfl kk))))) ?_
    refine go_end X3 (v := some (.ref b1)) (fun h => by rw [Bd.returns] at h; cases h) Bd.notSynchronized (by decide) (by decide) (Q := (Q_u_c3_4 Z s' c0 c1 c2 c3 ks h0 n0)) ?_ (fun fs hr => own_retA X3 hx Bd.returns rfl rfl (hb hby d7_58) hr)
    unfold Q_u_c3_4
    exact ⟨b1, k1, rfl, N3, by omega, (((Keep.refl h0 []).ext E1).trans K3 (allS (Or.inr (by first | omega | exact own_ne (by omega) | exact own_le (by omega) | exact own_lt (by omega))) all0)), Or.inl ⟨hl0, hl1, hl2, hl3, V3⟩⟩
  · refine go_of (B := (T3.setTop (mkF m 22 #[.val (.ref s'), .val (.int (0 : Int32)), .val (.int (4 : Int32)), .val (.ref b1), .val (.int (0 : Int32)), .unset] [(.int (0 : Int32)), (.ref s')]))) (fun _ kk => XS.istore X3.here hx rfl (hb hby d7_12) rfl rfl (XS.iload X3.here hx rfl (hb hby d7_14) rfl (XS.iloadN X3.here hx rfl (hb hby d7_16) rfl (XS.icmpNo X3.here hx rfl (hb hby d7_17) rfl (feq (by decide : ¬ ((0 : Int32) = (4 : Int32)))).1 (XS.aloadN X3.here hx rfl (hb hby d7_20) rfl rfl (XS.iloadN X3.here hx rfl (hb hby d7_21) rfl kk)))))) ?_
    refine go_of (B := (T3.setTop (mkF m 23 #[.val (.ref s'), .val (.int (0 : Int32)), .val (.int (4 : Int32)), .val (.ref b1), .val (.int (0 : Int32)), .unset] [(.int (4 : Int32)), (.int (0 : Int32)), (.ref s')]))) (fun _ kk => XS.iloadN X3.here hx rfl (hb hby d7_22) rfl kk) ?_
    have cf_4 := ((O.ext E1).keep K3 (allS (by first | omega | exact own_ne (by omega) | exact own_le (by omega) | exact own_lt (by omega)) all0))
    have cf_5 := (cf_2.keep K3 (ninS (by first | omega | exact own_ne (by omega) | exact own_le (by omega) | exact own_lt (by omega)) nin0))
    obtain ⟨_, _, ⟨T6, L6, k6, n6⟩, -, X6, ⟨Lc6, hQ6, l6, y6, z6⟩, st6⟩ := Jvm.LawKit.callS X3 hx (y := MN18) hown (mvT hZ (wd 82 rfl)) (mvT hZ (wd 83 rfl)) (mvT hZ (wd 39 rfl)) (mvT hZ (wd 84 rfl)) (by decide) (backOf (W := 0) (u_tob_4 l Z a0 hw [] s' c0 c1 c2 c3 ks T3.heap n0 (by first | omega | exact own_ne (by omega) | exact own_le (by omega) | exact own_lt (by omega)) cf_4 SU cf_5) hZ (wd 84 rfl) (wd 39 rfl) (by decide) (by decide)) (g := (mkF m 23 #[.val (.ref s'), .val (.int (0 : Int32)), .val (.int (4 : Int32)), .val (.ref b1), .val (.int (0 : Int32)), .unset] [(.int (4 : Int32)), (.int (0 : Int32)), (.ref s')])) rfl (by rw [hml]; rfl) (argsL := [(.ref s'), (.int (0 : Int32)), (.int (4 : Int32))]) (rest := []) (lenOf pd___CII__B rfl) rfl (by show 2 * 0 + _ ≤ _; exact Nat.le_of_eq rfl) (hb hby d7_23) (fun _ _ => ⟨rfl, rfl, (by decide : 1 + 1 ≤ _), (by decide : 4 + 8 ≤ _)⟩)
    dsimp only [Pt.U, Pt.locs, Pt.cells, Pt.slots] at X6 l6 y6 z6 st6 hQ6
    subst l6 y6 z6
    obtain ⟨b6, k6, rfl, N6q, lo6, K6, V6⟩ := hQ6
    have lo6 := own_nle lo6
    have N6 := Fr.app N3 N6q
    have hi6 := own_nlt (V6.lt)
    have sz6 := K6.1
    refine go_of (B := (T6.setTop (mkF m 26 #[.val (.ref s'), .val (.int (0 : Int32)), .val (.int (4 : Int32)), .val (.ref b1), .val (.int (0 : Int32)), .unset] [(.ref b6)]))) (st6) ?_
    refine go_of (B := (T6.setTop (mkF m 32 #[.val (.ref s'), .val (.int (0 : Int32)), .val (.int (4 : Int32)), .val (.ref b1), .val (.int (0 : Int32)), .val (.ref b6)] [(.int (0 : Int32)), (.ref b6)]))) (fun _ kk => XS.astore X6.here hx rfl (hb hby d7_26) rfl rfl rfl (XS.aload X6.here hx rfl (hb hby d7_28) rfl rfl (XS.iload X6.here hx rfl (hb hby d7_30) rfl kk))) ?_
    have cf_7 := (cf_4.keep K6 all0)
    obtain ⟨_, _, ⟨T8, L8, k8, n8⟩, -, X8, ⟨Lc8, hQ8, l8, y8, z8⟩, st8⟩ := Jvm.LawKit.callS X6 hx (y := MN14) hown (mvT hZ (wd 98 rfl)) (mvT hZ (wd 99 rfl)) (mvT hZ (wd 39 rfl)) (mvT hZ (wd 100 rfl)) (by decide) (backOf (W := 0) (u_get l Z a0 hw [] b6 (0 : Int32) (8 : Int32) _ c0 k6 T6.heap n0 (by first | omega | exact own_ne (by omega) | exact own_le (by omega) | exact own_lt (by omega)) cf_7 SU V6 (by decide) (by decide) rfl rfl hc0) hZ (wd 100 rfl) (wd 39 rfl) (by decide) (by decide)) (g := (mkF m 32 #[.val (.ref s'), .val (.int (0 : Int32)), .val (.int (4 : Int32)), .val (.ref b1), .val (.int (0 : Int32)), .val (.ref b6)] [(.int (0 : Int32)), (.ref b6)])) rfl (by rw [hml]; rfl) (argsL := [(.ref b6), (.int (0 : Int32))]) (rest := []) (lenOf pd___BI_C rfl) rfl (by show 2 * 0 + _ ≤ _; exact Nat.le_of_eq rfl) (hb hby d7_32) (fun _ _ => ⟨rfl, rfl, (by decide : 2 + 0 ≤ _), (by decide : 12 + 0 ≤ _)⟩)
    dsimp only [Pt.U, Pt.locs, Pt.cells, Pt.slots] at X8 l8 y8 z8 st8 hQ8
    subst l8 y8 z8
    obtain ⟨rfl, N8q, e8⟩ := hQ8
    have N8 := Fr.app N6 N8q
    refine go_of (B := (T8.setTop (mkF m 35 #[.val (.ref s'), .val (.int (0 : Int32)), .val (.int (4 : Int32)), .val (.ref b1), .val (.int (0 : Int32)), .val (.ref b6)] [(.int c0)]))) (st8) ?_
    refine go_of (B := (T8.setTop (mkF m 56 #[.val (.ref s'), .val (.int (0 : Int32)), .val (.int (4 : Int32)), .val (.ref b1), .val (.int (0 : Int32)), .val (.ref b6)] [(.ref b6)]))) (fun _ kk => XS.sipush X8.here hx rfl (hb hby d7_35) (XS.icmpYes X8.here hx rfl (pc0 := 38) (pc' := 54) rfl (hb hby d7_38) rfl (tlt hg).2.2.1 (by decide) (by decide) (XS.aload X8.here hx rfl (hb hby d7_54) rfl rfl kk))) ?_
    refine go_end X8 (v := some (.ref b6)) (fun h => by rw [Bd.returns] at h; cases h) Bd.notSynchronized (by decide) (by decide) (Q := (Q_u_c3_4 Z s' c0 c1 c2 c3 ks h0 n0)) ?_ (fun fs hr => own_retA X8 hx Bd.returns rfl rfl (hb hby d7_56) hr)
    unfold Q_u_c3_4
    try rw [e8]
    exact ⟨b6, k6, rfl, N8, by omega, ((((Keep.refl h0 []).ext E1).trans K3 (allS (Or.inr (by first | omega | exact own_ne (by omega) | exact own_le (by omega) | exact own_lt (by omega))) all0)).trans K6 all0), Or.inr V6⟩
  · refine go_of (B := (T3.setTop (mkF m 22 #[.val (.ref s'), .val (.int (0 : Int32)), .val (.int (4 : Int32)), .val (.ref b1), .val (.int (1 : Int32)), .unset] [(.int (0 : Int32)), (.ref s')]))) (fun _ kk => XS.istore X3.here hx rfl (hb hby d7_12) rfl rfl (XS.iload X3.here hx rfl (hb hby d7_14) rfl (XS.iloadN X3.here hx rfl (hb hby d7_16) rfl (XS.icmpNo X3.here hx rfl (hb hby d7_17) rfl (feq (by decide : ¬ ((1 : Int32) = (4 : Int32)))).1 (XS.aloadN X3.here hx rfl (hb hby d7_20) rfl rfl (XS.iloadN X3.here hx rfl (hb hby d7_21) rfl kk)))))) ?_
    refine go_of (B := (T3.setTop (mkF m 23 #[.val (.ref s'), .val (.int (0 : Int32)), .val (.int (4 : Int32)), .val (.ref b1), .val (.int (1 : Int32)), .unset] [(.int (4 : Int32)), (.int (0 : Int32)), (.ref s')]))) (fun _ kk => XS.iloadN X3.here hx rfl (hb hby d7_22) rfl kk) ?_
    have cf_9 := ((O.ext E1).keep K3 (allS (by first | omega | exact own_ne (by omega) | exact own_le (by omega) | exact own_lt (by omega)) all0))
    have cf_10 := (cf_2.keep K3 (ninS (by first | omega | exact own_ne (by omega) | exact own_le (by omega) | exact own_lt (by omega)) nin0))
    obtain ⟨_, _, ⟨T11, L11, k11, n11⟩, -, X11, ⟨Lc11, hQ11, l11, y11, z11⟩, st11⟩ := Jvm.LawKit.callS X3 hx (y := MN18) hown (mvT hZ (wd 82 rfl)) (mvT hZ (wd 83 rfl)) (mvT hZ (wd 39 rfl)) (mvT hZ (wd 84 rfl)) (by decide) (backOf (W := 0) (u_tob_4 l Z a0 hw [] s' c0 c1 c2 c3 ks T3.heap n0 (by first | omega | exact own_ne (by omega) | exact own_le (by omega) | exact own_lt (by omega)) cf_9 SU cf_10) hZ (wd 84 rfl) (wd 39 rfl) (by decide) (by decide)) (g := (mkF m 23 #[.val (.ref s'), .val (.int (0 : Int32)), .val (.int (4 : Int32)), .val (.ref b1), .val (.int (1 : Int32)), .unset] [(.int (4 : Int32)), (.int (0 : Int32)), (.ref s')])) rfl (by rw [hml]; rfl) (argsL := [(.ref s'), (.int (0 : Int32)), (.int (4 : Int32))]) (rest := []) (lenOf pd___CII__B rfl) rfl (by show 2 * 0 + _ ≤ _; exact Nat.le_of_eq rfl) (hb hby d7_23) (fun _ _ => ⟨rfl, rfl, (by decide : 1 + 1 ≤ _), (by decide : 4 + 8 ≤ _)⟩)
    dsimp only [Pt.U, Pt.locs, Pt.cells, Pt.slots] at X11 l11 y11 z11 st11 hQ11
    subst l11 y11 z11
    obtain ⟨b11, k11, rfl, N11q, lo11, K11, V11⟩ := hQ11
    have lo11 := own_nle lo11
    have N11 := Fr.app N3 N11q
    have hi11 := own_nlt (V11.lt)
    have sz11 := K11.1
    refine go_of (B := (T11.setTop (mkF m 26 #[.val (.ref s'), .val (.int (0 : Int32)), .val (.int (4 : Int32)), .val (.ref b1), .val (.int (1 : Int32)), .unset] [(.ref b11)]))) (st11) ?_
    refine go_of (B := (T11.setTop (mkF m 32 #[.val (.ref s'), .val (.int (0 : Int32)), .val (.int (4 : Int32)), .val (.ref b1), .val (.int (1 : Int32)), .val (.ref b11)] [(.int (1 : Int32)), (.ref b11)]))) (fun _ kk => XS.astore X11.here hx rfl (hb hby d7_26) rfl rfl rfl (XS.aload X11.here hx rfl (hb hby d7_28) rfl rfl (XS.iload X11.here hx rfl (hb hby d7_30) rfl kk))) ?_
    have cf_12 := (cf_9.keep K11 all0)
    obtain ⟨_, _, ⟨T13, L13, k13, n13⟩, -, X13, ⟨Lc13, hQ13, l13, y13, z13⟩, st13⟩ := Jvm.LawKit.callS X11 hx (y := MN14) hown (mvT hZ (wd 98 rfl)) (mvT hZ (wd 99 rfl)) (mvT hZ (wd 39 rfl)) (mvT hZ (wd 100 rfl)) (by decide) (backOf (W := 0) (u_get l Z a0 hw [] b11 (1 : Int32) (8 : Int32) _ c1 k11 T11.heap n0 (by first | omega | exact own_ne (by omega) | exact own_le (by omega) | exact own_lt (by omega)) cf_12 SU V11 (by decide) (by decide) rfl rfl hc1) hZ (wd 100 rfl) (wd 39 rfl) (by decide) (by decide)) (g := (mkF m 32 #[.val (.ref s'), .val (.int (0 : Int32)), .val (.int (4 : Int32)), .val (.ref b1), .val (.int (1 : Int32)), .val (.ref b11)] [(.int (1 : Int32)), (.ref b11)])) rfl (by rw [hml]; rfl) (argsL := [(.ref b11), (.int (1 : Int32))]) (rest := []) (lenOf pd___BI_C rfl) rfl (by show 2 * 0 + _ ≤ _; exact Nat.le_of_eq rfl) (hb hby d7_32) (fun _ _ => ⟨rfl, rfl, (by decide : 2 + 0 ≤ _), (by decide : 12 + 0 ≤ _)⟩)
    dsimp only [Pt.U, Pt.locs, Pt.cells, Pt.slots] at X13 l13 y13 z13 st13 hQ13
    subst l13 y13 z13
    obtain ⟨rfl, N13q, e13⟩ := hQ13
    have N13 := Fr.app N11 N13q
    refine go_of (B := (T13.setTop (mkF m 35 #[.val (.ref s'), .val (.int (0 : Int32)), .val (.int (4 : Int32)), .val (.ref b1), .val (.int (1 : Int32)), .val (.ref b11)] [(.int c1)]))) (st13) ?_
    refine go_of (B := (T13.setTop (mkF m 56 #[.val (.ref s'), .val (.int (0 : Int32)), .val (.int (4 : Int32)), .val (.ref b1), .val (.int (1 : Int32)), .val (.ref b11)] [(.ref b11)]))) (fun _ kk => XS.sipush X13.here hx rfl (hb hby d7_35) (XS.icmpYes X13.here hx rfl (pc0 := 38) (pc' := 54) rfl (hb hby d7_38) rfl (tlt hg).2.2.1 (by decide) (by decide) (XS.aload X13.here hx rfl (hb hby d7_54) rfl rfl kk))) ?_
    refine go_end X13 (v := some (.ref b11)) (fun h => by rw [Bd.returns] at h; cases h) Bd.notSynchronized (by decide) (by decide) (Q := (Q_u_c3_4 Z s' c0 c1 c2 c3 ks h0 n0)) ?_ (fun fs hr => own_retA X13 hx Bd.returns rfl rfl (hb hby d7_56) hr)
    unfold Q_u_c3_4
    try rw [e13]
    exact ⟨b11, k11, rfl, N13, by omega, ((((Keep.refl h0 []).ext E1).trans K3 (allS (Or.inr (by first | omega | exact own_ne (by omega) | exact own_le (by omega) | exact own_lt (by omega))) all0)).trans K11 all0), Or.inr V11⟩
  · refine go_of (B := (T3.setTop (mkF m 22 #[.val (.ref s'), .val (.int (0 : Int32)), .val (.int (4 : Int32)), .val (.ref b1), .val (.int (2 : Int32)), .unset] [(.int (0 : Int32)), (.ref s')]))) (fun _ kk => XS.istore X3.here hx rfl (hb hby d7_12) rfl rfl (XS.iload X3.here hx rfl (hb hby d7_14) rfl (XS.iloadN X3.here hx rfl (hb hby d7_16) rfl (XS.icmpNo X3.here hx rfl (hb hby d7_17) rfl (feq (by decide : ¬ ((2 : Int32) = (4 : Int32)))).1 (XS.aloadN X3.here hx rfl (hb hby d7_20) rfl rfl (XS.iloadN X3.here hx rfl (hb hby d7_21) rfl kk)))))) ?_
    refine go_of (B := (T3.setTop (mkF m 23 #[.val (.ref s'), .val (.int (0 : Int32)), .val (.int (4 : Int32)), .val (.ref b1), .val (.int (2 : Int32)), .unset] [(.int (4 : Int32)), (.int (0 : Int32)), (.ref s')]))) (fun _ kk => XS.iloadN X3.here hx rfl (hb hby d7_22) rfl kk) ?_
    have cf_14 := ((O.ext E1).keep K3 (allS (by first | omega | exact own_ne (by omega) | exact own_le (by omega) | exact own_lt (by omega)) all0))
    have cf_15 := (cf_2.keep K3 (ninS (by first | omega | exact own_ne (by omega) | exact own_le (by omega) | exact own_lt (by omega)) nin0))
    obtain ⟨_, _, ⟨T16, L16, k16, n16⟩, -, X16, ⟨Lc16, hQ16, l16, y16, z16⟩, st16⟩ := Jvm.LawKit.callS X3 hx (y := MN18) hown (mvT hZ (wd 82 rfl)) (mvT hZ (wd 83 rfl)) (mvT hZ (wd 39 rfl)) (mvT hZ (wd 84 rfl)) (by decide) (backOf (W := 0) (u_tob_4 l Z a0 hw [] s' c0 c1 c2 c3 ks T3.heap n0 (by first | omega | exact own_ne (by omega) | exact own_le (by omega) | exact own_lt (by omega)) cf_14 SU cf_15) hZ (wd 84 rfl) (wd 39 rfl) (by decide) (by decide)) (g := (mkF m 23 #[.val (.ref s'), .val (.int (0 : Int32)), .val (.int (4 : Int32)), .val (.ref b1), .val (.int (2 : Int32)), .unset] [(.int (4 : Int32)), (.int (0 : Int32)), (.ref s')])) rfl (by rw [hml]; rfl) (argsL := [(.ref s'), (.int (0 : Int32)), (.int (4 : Int32))]) (rest := []) (lenOf pd___CII__B rfl) rfl (by show 2 * 0 + _ ≤ _; exact Nat.le_of_eq rfl) (hb hby d7_23) (fun _ _ => ⟨rfl, rfl, (by decide : 1 + 1 ≤ _), (by decide : 4 + 8 ≤ _)⟩)
    dsimp only [Pt.U, Pt.locs, Pt.cells, Pt.slots] at X16 l16 y16 z16 st16 hQ16
    subst l16 y16 z16
    obtain ⟨b16, k16, rfl, N16q, lo16, K16, V16⟩ := hQ16
    have lo16 := own_nle lo16
    have N16 := Fr.app N3 N16q
    have hi16 := own_nlt (V16.lt)
    have sz16 := K16.1
    refine go_of (B := (T16.setTop (mkF m 26 #[.val (.ref s'), .val (.int (0 : Int32)), .val (.int (4 : Int32)), .val (.ref b1), .val (.int (2 : Int32)), .unset] [(.ref b16)]))) (st16) ?_
    refine go_of (B := (T16.setTop (mkF m 32 #[.val (.ref s'), .val (.int (0 : Int32)), .val (.int (4 : Int32)), .val (.ref b1), .val (.int (2 : Int32)), .val (.ref b16)] [(.int (2 : Int32)), (.ref b16)]))) (fun _ kk => XS.astore X16.here hx rfl (hb hby d7_26) rfl rfl rfl (XS.aload X16.here hx rfl (hb hby d7_28) rfl rfl (XS.iload X16.here hx rfl (hb hby d7_30) rfl kk))) ?_
    have cf_17 := (cf_14.keep K16 all0)
    obtain ⟨_, _, ⟨T18, L18, k18, n18⟩, -, X18, ⟨Lc18, hQ18, l18, y18, z18⟩, st18⟩ := Jvm.LawKit.callS X16 hx (y := MN14) hown (mvT hZ (wd 98 rfl)) (mvT hZ (wd 99 rfl)) (mvT hZ (wd 39 rfl)) (mvT hZ (wd 100 rfl)) (by decide) (backOf (W := 0) (u_get l Z a0 hw [] b16 (2 : Int32) (8 : Int32) _ c2 k16 T16.heap n0 (by first | omega | exact own_ne (by omega) | exact own_le (by omega) | exact own_lt (by omega)) cf_17 SU V16 (by decide) (by decide) rfl rfl hc2) hZ (wd 100 rfl) (wd 39 rfl) (by decide) (by decide)) (g := (mkF m 32 #[.val (.ref s'), .val (.int (0 : Int32)), .val (.int (4 : Int32)), .val (.ref b1), .val (.int (2 : Int32)), .val (.ref b16)] [(.int (2 : Int32)), (.ref b16)])) rfl (by rw [hml]; rfl) (argsL := [(.ref b16), (.int (2 : Int32))]) (rest := []) (lenOf pd___BI_C rfl) rfl (by show 2 * 0 + _ ≤ _; exact Nat.le_of_eq rfl) (hb hby d7_32) (fun _ _ => ⟨rfl, rfl, (by decide : 2 + 0 ≤ _), (by decide : 12 + 0 ≤ _)⟩)
    dsimp only [Pt.U, Pt.locs, Pt.cells, Pt.slots] at X18 l18 y18 z18 st18 hQ18
    subst l18 y18 z18
    obtain ⟨rfl, N18q, e18⟩ := hQ18
    have N18 := Fr.app N16 N18q
    refine go_of (B := (T18.setTop (mkF m 35 #[.val (.ref s'), .val (.int (0 : Int32)), .val (.int (4 : Int32)), .val (.ref b1), .val (.int (2 : Int32)), .val (.ref b16)] [(.int c2)]))) (st18) ?_
    refine go_of (B := (T18.setTop (mkF m 56 #[.val (.ref s'), .val (.int (0 : Int32)), .val (.int (4 : Int32)), .val (.ref b1), .val (.int (2 : Int32)), .val (.ref b16)] [(.ref b16)]))) (fun _ kk => XS.sipush X18.here hx rfl (hb hby d7_35) (XS.icmpYes X18.here hx rfl (pc0 := 38) (pc' := 54) rfl (hb hby d7_38) rfl (tlt hg).2.2.1 (by decide) (by decide) (XS.aload X18.here hx rfl (hb hby d7_54) rfl rfl kk))) ?_
    refine go_end X18 (v := some (.ref b16)) (fun h => by rw [Bd.returns] at h; cases h) Bd.notSynchronized (by decide) (by decide) (Q := (Q_u_c3_4 Z s' c0 c1 c2 c3 ks h0 n0)) ?_ (fun fs hr => own_retA X18 hx Bd.returns rfl rfl (hb hby d7_56) hr)
    unfold Q_u_c3_4
    try rw [e18]
    exact ⟨b16, k16, rfl, N18, by omega, ((((Keep.refl h0 []).ext E1).trans K3 (allS (Or.inr (by first | omega | exact own_ne (by omega) | exact own_le (by omega) | exact own_lt (by omega))) all0)).trans K16 all0), Or.inr V16⟩
  · refine go_of (B := (T3.setTop (mkF m 22 #[.val (.ref s'), .val (.int (0 : Int32)), .val (.int (4 : Int32)), .val (.ref b1), .val (.int (3 : Int32)), .unset] [(.int (0 : Int32)), (.ref s')]))) (fun _ kk => XS.istore X3.here hx rfl (hb hby d7_12) rfl rfl (XS.iload X3.here hx rfl (hb hby d7_14) rfl (XS.iloadN X3.here hx rfl (hb hby d7_16) rfl (XS.icmpNo X3.here hx rfl (hb hby d7_17) rfl (feq (by decide : ¬ ((3 : Int32) = (4 : Int32)))).1 (XS.aloadN X3.here hx rfl (hb hby d7_20) rfl rfl (XS.iloadN X3.here hx rfl (hb hby d7_21) rfl kk)))))) ?_
    refine go_of (B := (T3.setTop (mkF m 23 #[.val (.ref s'), .val (.int (0 : Int32)), .val (.int (4 : Int32)), .val (.ref b1), .val (.int (3 : Int32)), .unset] [(.int (4 : Int32)), (.int (0 : Int32)), (.ref s')]))) (fun _ kk => XS.iloadN X3.here hx rfl (hb hby d7_22) rfl kk) ?_
    have cf_19 := ((O.ext E1).keep K3 (allS (by first | omega | exact own_ne (by omega) | exact own_le (by omega) | exact own_lt (by omega)) all0))
    have cf_20 := (cf_2.keep K3 (ninS (by first | omega | exact own_ne (by omega) | exact own_le (by omega) | exact own_lt (by omega)) nin0))
    obtain ⟨_, _, ⟨T21, L21, k21, n21⟩, -, X21, ⟨Lc21, hQ21, l21, y21, z21⟩, st21⟩ := Jvm.LawKit.callS X3 hx (y := MN18) hown (mvT hZ (wd 82 rfl)) (mvT hZ (wd 83 rfl)) (mvT hZ (wd 39 rfl)) (mvT hZ (wd 84 rfl)) (by decide) (backOf (W := 0) (u_tob_4 l Z a0 hw [] s' c0 c1 c2 c3 ks T3.heap n0 (by first | omega | exact own_ne (by omega) | exact own_le (by omega) | exact own_lt (by omega)) cf_19 SU cf_20) hZ (wd 84 rfl) (wd 39 rfl) (by decide) (by decide)) (g := (mkF m 23 #[.val (.ref s'), .val (.int (0 : Int32)), .val (.int (4 : Int32)), .val (.ref b1), .val (.int (3 : Int32)), .unset] [(.int (4 : Int32)), (.int (0 : Int32)), (.ref s')])) rfl (by rw [hml]; rfl) (argsL := [(.ref s'), (.int (0 : Int32)), (.int (4 : Int32))]) (rest := []) (lenOf pd___CII__B rfl) rfl (by show 2 * 0 + _ ≤ _; exact Nat.le_of_eq rfl) (hb hby d7_23) (fun _ _ => ⟨rfl, rfl, (by decide : 1 + 1 ≤ _), (by decide : 4 + 8 ≤ _)⟩)
    dsimp only [Pt.U, Pt.locs, Pt.cells, Pt.slots] at X21 l21 y21 z21 st21 hQ21
    subst l21 y21 z21
    obtain ⟨b21, k21, rfl, N21q, lo21, K21, V21⟩ := hQ21
    have lo21 := own_nle lo21
    have N21 := Fr.app N3 N21q
    have hi21 := own_nlt (V21.lt)
    have sz21 := K21.1
    refine go_of (B := (T21.setTop (mkF m 26 #[.val (.ref s'), .val (.int (0 : Int32)), .val (.int (4 : Int32)), .val (.ref b1), .val (.int (3 : Int32)), .unset] [(.ref b21)]))) (st21) ?_
    refine go_of (B := (T21.setTop (mkF m 32 #[.val (.ref s'), .val (.int (0 : Int32)), .val (.int (4 : Int32)), .val (.ref b1), .val (.int (3 : Int32)), .val (.ref b21)] [(.int (3 : Int32)), (.ref b21)]))) (fun _ kk => XS.astore X21.here hx rfl (hb hby d7_26) rfl rfl rfl (XS.aload X21.here hx rfl (hb hby d7_28) rfl rfl (XS.iload X21.here hx rfl (hb hby d7_30) rfl kk))) ?_
    have cf_22 := (cf_19.keep K21 all0)
    obtain ⟨_, _, ⟨T23, L23, k23, n23⟩, -, X23, ⟨Lc23, hQ23, l23, y23, z23⟩, st23⟩ := Jvm.LawKit.callS X21 hx (y := MN14) hown (mvT hZ (wd 98 rfl)) (mvT hZ (wd 99 rfl)) (mvT hZ (wd 39 rfl)) (mvT hZ (wd 100 rfl)) (by decide) (backOf (W := 0) (u_get l Z a0 hw [] b21 (3 : Int32) (8 : Int32) _ c3 k21 T21.heap n0 (by first | omega | exact own_ne (by omega) | exact own_le (by omega) | exact own_lt (by omega)) cf_22 SU V21 (by decide) (by decide) rfl rfl hc3) hZ (wd 100 rfl) (wd 39 rfl) (by decide) (by decide)) (g := (mkF m 32 #[.val (.ref s'), .val (.int (0 : Int32)), .val (.int (4 : Int32)), .val (.ref b1), .val (.int (3 : Int32)), .val (.ref b21)] [(.int (3 : Int32)), (.ref b21)])) rfl (by rw [hml]; rfl) (argsL := [(.ref b21), (.int (3 : Int32))]) (rest := []) (lenOf pd___BI_C rfl) rfl (by show 2 * 0 + _ ≤ _; exact Nat.le_of_eq rfl) (hb hby d7_32) (fun _ _ => ⟨rfl, rfl, (by decide : 2 + 0 ≤ _), (by decide : 12 + 0 ≤ _)⟩)
    dsimp only [Pt.U, Pt.locs, Pt.cells, Pt.slots] at X23 l23 y23 z23 st23 hQ23
    subst l23 y23 z23
    obtain ⟨rfl, N23q, e23⟩ := hQ23
    have N23 := Fr.app N21 N23q
    refine go_of (B := (T23.setTop (mkF m 35 #[.val (.ref s'), .val (.int (0 : Int32)), .val (.int (4 : Int32)), .val (.ref b1), .val (.int (3 : Int32)), .val (.ref b21)] [(.int c3)]))) (st23) ?_
    refine go_of (B := (T23.setTop (mkF m 56 #[.val (.ref s'), .val (.int (0 : Int32)), .val (.int (4 : Int32)), .val (.ref b1), .val (.int (3 : Int32)), .val (.ref b21)] [(.ref b21)]))) (fun _ kk => XS.sipush X23.here hx rfl (hb hby d7_35) (XS.icmpYes X23.here hx rfl (pc0 := 38) (pc' := 54) rfl (hb hby d7_38) rfl (tlt hg).2.2.1 (by decide) (by decide) (XS.aload X23.here hx rfl (hb hby d7_54) rfl rfl kk))) ?_
    refine go_end X23 (v := some (.ref b21)) (fun h => by rw [Bd.returns] at h; cases h) Bd.notSynchronized (by decide) (by decide) (Q := (Q_u_c3_4 Z s' c0 c1 c2 c3 ks h0 n0)) ?_ (fun fs hr => own_retA X23 hx Bd.returns rfl rfl (hb hby d7_56) hr)
    unfold Q_u_c3_4
    try rw [e23]
    exact ⟨b21, k21, rfl, N23, by omega, ((((Keep.refl h0 []).ext E1).trans K3 (allS (Or.inr (by first | omega | exact own_ne (by omega) | exact own_le (by omega) | exact own_lt (by omega))) all0)).trans K21 all0), Or.inr V21⟩
def Q_str_cf_4 (Z : State) (t : Addr) (k : ClassId) (vs : List Value) (h0 : Heap) (n0 : Nat) (v : Option Value) (h : Heap) (L : List Loc) : Prop := v = some (.int 0) ∧ Fr n0 L ∧ h = h0
theorem ef_str_cf_4 (m : MethodId) (t : Addr)  : entryFrame m #[(.ref t), (.int (4 : Int32))] 2 = mkF m 0 #[.val (.ref t), .val (.int (4 : Int32))] [] := by first | (simp [entryFrame, mkF, argsToLocals, Value.category]; done) | rfl
theorem str_cf_4 (l : Launch) (Z : State) (a0 : Array Value) (hw : TW a0 Z) (ws : List Jvm.Cond) (t : Addr) (k : ClassId) (vs : List Value) (h0 : Heap) (n0 : Nat) (Z0 : n0 ≤ h0.size) (V : Arv Z h0 t k .byte 4 vs (.int 0)) :
    own_MF l Z MN11 jdk_52_method_15_code 2 (some .byte) ws (own_R 0 0 0 0) #[(.ref t), (.int (4 : Int32))] h0 (Q_str_cf_4 Z t k vs h0 n0) := by
  have wd := @own_wd _ _ hw
  refine MetFree.of_bodySF (plainFor_of_name pn_java_lang_StringUTF16) hisR ?_
  intro p e s m args below meth c s₁ Bd hml0 hP hK
  obtain ⟨rfl, hZ, hh⟩ := hP
  have hx := Bd.exec
  have hby := Bd.bytes
  have hml : c.maxLocals = 2 := hml0
  have hown : s.vm.findClass "java/lang/StringUTF16" = some m.cls := findClass_of_methodNamed Bd.named
  have hnm := (name_of_methodNamed Bd.named Bd.method).1
  have X0 : Stand p l e (own_R 0 0 0 0) s m #[(.ref t), (.int (4 : Int32))] below meth c s₁ [] 0 0 := Stand.of_body Bd
  have e0 : s₁.heap = h0 := by rw [← hh, Bd.state]; rfl
  have N0 := Fr.nil n0
  refine go_of (A := s₁.setTop (entryFrame m #[(.ref t), (.int (4 : Int32))] 2)) (B := s₁.setTop (mkF m 0 #[.val (.ref t), .val (.int (4 : Int32))] [])) (fun _ kk' => castTop (ef_str_cf_4 m t) kk') ?_
  refine go_of (B := (s₁.setTop (mkF m 2 #[.val (.ref t), .val (.int (4 : Int32))] [(.ref t), (.int (4 : Int32))]))) (fun _ kk => XS.iloadN X0.here hx rfl (hb hby d9_0) rfl (XS.aloadN X0.here hx rfl (hb hby d9_1) rfl rfl kk)) ?_
  obtain ⟨cl1, Ar1, q1, Sz1, Nn1, Hh1, G1⟩ := id (V)
  have ln1 := len_of Sz1 Nn1
  refine go_of (B := (s₁.setTop (mkF m 3 #[.val (.ref t), .val (.int (4 : Int32))] [(.int (4 : Int32)), (.int (4 : Int32))]))) (fun _ kk => X0.arraylength hx (by rw [e0]; exact Ar1.1) (State.isArrayOf_alike hZ.alike Ar1.2.1) (g := (mkF m 2 #[.val (.ref t), .val (.int (4 : Int32))] [(.ref t), (.int (4 : Int32))])) rfl rfl (hb hby d9_2) _ (by rw [ln1]; exact kk)) ?_
  refine go_of (B := (s₁.setTop (mkF m 8 #[.val (.ref t), .val (.int (4 : Int32))] [(.int (0 : Int32))]))) (fun _ kk => XS.isub X0.here hx rfl (hb hby d9_3) rfl (XS.bipush X0.here hx rfl (hb hby d9_4) (XS.iushr X0.here hx rfl (hb hby d9_6) rfl (XS.i2b X0.here hx rfl (hb hby d9_7) rfl kk)))) ?_
  refine go_end X0 (v := some (.int (nar .byte (0 : Int32)))) (fun h => by rw [Bd.returns] at h; cases h) Bd.notSynchronized (by decide) (by decide) (Q := (Q_str_cf_4 Z t k vs h0 n0)) ?_ (fun fs hr => retN X0 hx (t := .byte) Bd.returns (by simp) (hb hby d9_8) hr)
  unfold Q_str_cf_4
  try rw [e0]
  exact ⟨rfl, N0, rfl⟩
def Q_u_cf_4 (Z : State) (t : Addr) (k : ClassId) (vs : List Value) (h0 : Heap) (n0 : Nat) (v : Option Value) (h : Heap) (L : List Loc) : Prop := v = some (.int 1) ∧ Fr n0 L ∧ h = h0
theorem ef_u_cf_4 (m : MethodId) (t : Addr)  : entryFrame m #[(.ref t), (.int (4 : Int32))] 2 = mkF m 0 #[.val (.ref t), .val (.int (4 : Int32))] [] := by first | (simp [entryFrame, mkF, argsToLocals, Value.category]; done) | rfl
theorem u_cf_4 (l : Launch) (Z : State) (a0 : Array Value) (hw : TW a0 Z) (ws : List Jvm.Cond) (t : Addr) (k : ClassId) (vs : List Value) (h0 : Heap) (n0 : Nat) (Z0 : n0 ≤ h0.size) (V : Arv Z h0 t k .byte 8 vs (.int 0)) :
    own_MF l Z MN11 jdk_52_method_15_code 2 (some .byte) ws (own_R 0 0 0 0) #[(.ref t), (.int (4 : Int32))] h0 (Q_u_cf_4 Z t k vs h0 n0) := by
  have wd := @own_wd _ _ hw
  refine MetFree.of_bodySF (plainFor_of_name pn_java_lang_StringUTF16) hisR ?_
  intro p e s m args below meth c s₁ Bd hml0 hP hK
  obtain ⟨rfl, hZ, hh⟩ := hP
  have hx := Bd.exec
  have hby := Bd.bytes
  have hml : c.maxLocals = 2 := hml0
  have hown : s.vm.findClass "java/lang/StringUTF16" = some m.cls := findClass_of_methodNamed Bd.named
  have hnm := (name_of_methodNamed Bd.named Bd.method).1
  have X0 : Stand p l e (own_R 0 0 0 0) s m #[(.ref t), (.int (4 : Int32))] below meth c s₁ [] 0 0 := Stand.of_body Bd
  have e0 : s₁.heap = h0 := by rw [← hh, Bd.state]; rfl
  have N0 := Fr.nil n0
  refine go_of (A := s₁.setTop (entryFrame m #[(.ref t), (.int (4 : Int32))] 2)) (B := s₁.setTop (mkF m 0 #[.val (.ref t), .val (.int (4 : Int32))] [])) (fun _ kk' => castTop (ef_u_cf_4 m t) kk') ?_
  refine go_of (B := (s₁.setTop (mkF m 2 #[.val (.ref t), .val (.int (4 : Int32))] [(.ref t), (.int (4 : Int32))]))) (fun _ kk => XS.iloadN X0.here hx rfl (hb hby d9_0) rfl (XS.aloadN X0.here hx rfl (hb hby d9_1) rfl rfl kk)) ?_
  obtain ⟨cl1, Ar1, q1, Sz1, Nn1, Hh1, G1⟩ := id (V)
  have ln1 := len_of Sz1 Nn1
  refine go_of (B := (s₁.setTop (mkF m 3 #[.val (.ref t), .val (.int (4 : Int32))] [(.int (8 : Int32)), (.int (4 : Int32))]))) (fun _ kk => X0.arraylength hx (by rw [e0]; exact Ar1.1) (State.isArrayOf_alike hZ.alike Ar1.2.1) (g := (mkF m 2 #[.val (.ref t), .val (.int (4 : Int32))] [(.ref t), (.int (4 : Int32))])) rfl rfl (hb hby d9_2) _ (by rw [ln1]; exact kk)) ?_
  refine go_of (B := (s₁.setTop (mkF m 8 #[.val (.ref t), .val (.int (4 : Int32))] [(.int (1 : Int32))]))) (fun _ kk => XS.isub X0.here hx rfl (hb hby d9_3) rfl (XS.bipush X0.here hx rfl (hb hby d9_4) (XS.iushr X0.here hx rfl (hb hby d9_6) rfl (XS.i2b X0.here hx rfl (hb hby d9_7) rfl kk)))) ?_
  refine go_end X0 (v := some (.int (nar .byte (1 : Int32)))) (fun h => by rw [Bd.returns] at h; cases h) Bd.notSynchronized (by decide) (by decide) (Q := (Q_u_cf_4 Z t k vs h0 n0)) ?_ (fun fs hr => retN X0 hx (t := .byte) Bd.returns (by simp) (hb hby d9_8) hr)
  unfold Q_u_cf_4
  try rw [e0]
  exact ⟨rfl, N0, rfl⟩
def Q_u_i4_4 (Z : State) (a : Addr) (s' : Addr) (c0 : Int32) (c1 : Int32) (c2 : Int32) (c3 : Int32) (ks : ClassId) (gC : Int32) (u : Value) (u2 : Value) (h0 : Heap) (n0 : Nat) (v : Option Value) (h : Heap) (L : List Loc) : Prop := v = none ∧ Fr n0 L ∧ Keep h0 h [a] ∧ StrU Z h a 4 8 [c0, c1, c2, c3]
theorem ef_u_i4_4 (m : MethodId) (a : Addr) (s' : Addr)  : entryFrame m #[(.ref a), (.ref s'), (.int (0 : Int32)), (.int (4 : Int32)), .null] 6 = mkF m 0 #[.val (.ref a), .val (.ref s'), .val (.int (0 : Int32)), .val (.int (4 : Int32)), .val .null, .unset] [] := by first | (simp [entryFrame, mkF, argsToLocals, Value.category]; done) | rfl
theorem u_i4_4 (l : Launch) (Z : State) (a0 : Array Value) (hw : TW a0 Z) (ws : List Jvm.Cond) (a : Addr) (s' : Addr) (c0 : Int32) (c1 : Int32) (c2 : Int32) (c3 : Int32) (ks : ClassId) (gC : Int32) (u : Value) (u2 : Value) (h0 : Heap) (n0 : Nat) (Z0 : n0 ≤ h0.size) (O : Old Z n0 h0) (SC : Sta Z Z.heap "java/lang/String" "COMPACT_STRINGS" "Z" (.int gC)) (hgC : ¬ gC = (0 : Int32)) (SU : US Z) (E : Exa Z h0 a "java/lang/String") (F : Fld Z h0 a "java/lang/String" "value" "[B" u) (F2 : Fld Z h0 a "java/lang/String" "coder" "B" u2) (g : n0 ≤ a) (Vs : Arv Z h0 s' ks .char 4 [(.int c0), (.int c1), (.int c2), (.int c3)] (.int 0)) (hc0 : ¬ c0 < 0 ∧ ¬ (65535 : Int32) < c0) (hc1 : ¬ c1 < 0 ∧ ¬ (65535 : Int32) < c1) (hc2 : ¬ c2 < 0 ∧ ¬ (65535 : Int32) < c2) (hc3 : ¬ c3 < 0 ∧ ¬ (65535 : Int32) < c3) :
    own_MF l Z MN4 jdk_42_method_149_code 6 none ws (own_R 4 2 12 57) #[(.ref a), (.ref s'), (.int (0 : Int32)), (.int (4 : Int32)), .null] h0 (Q_u_i4_4 Z a s' c0 c1 c2 c3 ks gC u u2 h0 n0) := by
  have wd := @own_wd _ _ hw
  refine MetFree.of_bodySF (plainFor_of_name pn_java_lang_String) hisR ?_
  intro p e s m args below meth c s₁ Bd hml0 hP hK
  obtain ⟨rfl, hZ, hh⟩ := hP
  have hx := Bd.exec
  have hby := Bd.bytes
  have hml : c.maxLocals = 6 := hml0
  have hown : s.vm.findClass "java/lang/String" = some m.cls := findClass_of_methodNamed Bd.named
  have hnm := (name_of_methodNamed Bd.named Bd.method).1
  have X0 : Stand p l e (own_R 4 2 12 57) s m #[(.ref a), (.ref s'), (.int (0 : Int32)), (.int (4 : Int32)), .null] below meth c s₁ [] 0 0 := Stand.of_body Bd
  have e0 : s₁.heap = h0 := by rw [← hh, Bd.state]; rfl
  have N0 := Fr.nil n0
  have lta := own_nlt (E.lt)
  have lts := own_nlt (Vs.lt)
  refine go_of (A := s₁.setTop (entryFrame m #[(.ref a), (.ref s'), (.int (0 : Int32)), (.int (4 : Int32)), .null] 6)) (B := s₁.setTop (mkF m 0 #[.val (.ref a), .val (.ref s'), .val (.int (0 : Int32)), .val (.int (4 : Int32)), .val .null, .unset] [])) (fun _ kk' => castTop (ef_u_i4_4 m a s') kk') ?_
  refine go_of (B := (s₁.setTop (mkF m 1 #[.val (.ref a), .val (.ref s'), .val (.int (0 : Int32)), .val (.int (4 : Int32)), .val .null, .unset] [(.ref a)]))) (fun _ kk => XS.aloadN X0.here hx rfl (hb hby d3_0) rfl rfl kk) ?_
  obtain ⟨T1, X1, e1, st1⟩ := initO X0 hx hZ hown (wd 16 rfl) (wd 17 rfl) (wd 18 rfl) e0 (g := (mkF m 1 #[.val (.ref a), .val (.ref s'), .val (.int (0 : Int32)), .val (.int (4 : Int32)), .val .null, .unset] [(.ref a)])) rfl (by rw [hml]; rfl) rfl (hb hby d3_1) (by decide) (W := 0) (by show 2 * 0 + _ ≤ _; exact Nat.le_of_eq rfl) (by decide)
  refine go_of (B := (T1.setTop (mkF m 4 #[.val (.ref a), .val (.ref s'), .val (.int (0 : Int32)), .val (.int (4 : Int32)), .val .null, .unset] []))) (st1) ?_
  refine go_of (B := (T1.setTop (mkF m 27 #[.val (.ref a), .val (.ref s'), .val (.int (0 : Int32)), .val (.int (4 : Int32)), .val .null, .unset] []))) (fun _ kk => XS.iloadN X1.here hx rfl (hb hby d3_4) rfl (XS.ifYes X1.here hx rfl (pc0 := 5) (pc' := 27) rfl (hb hby d3_5) rfl ((if0 _ _).trans (feq (by decide : ¬ ((4 : Int32) = (0 : Int32)))).2) (by decide) (by decide) kk)) ?_
  obtain ⟨T2, X2, e2, st2⟩ := getS2 X1 hx hZ hown (host := "") (Or.inl (wd 36 rfl)) Via.refl e1 (SC.ext O.2) (g := (mkF m 27 #[.val (.ref a), .val (.ref s'), .val (.int (0 : Int32)), .val (.int (4 : Int32)), .val .null, .unset] [])) rfl (hb hby d3_27)
  refine go_of (B := (T2.setTop (mkF m 30 #[.val (.ref a), .val (.ref s'), .val (.int (0 : Int32)), .val (.int (4 : Int32)), .val .null, .unset] [(.int gC)]))) (st2) ?_
  refine go_of (B := (T2.setTop (mkF m 36 #[.val (.ref a), .val (.ref s'), .val (.int (0 : Int32)), .val (.int (4 : Int32)), .val .null, .unset] [(.int (4 : Int32)), (.int (0 : Int32)), (.ref s')]))) (fun _ kk => XS.ifNo X2.here hx rfl (hb hby d3_30) rfl ((if0 _ _).trans (feq hgC).1) (XS.aloadN X2.here hx rfl (hb hby d3_33) rfl rfl (XS.iloadN X2.here hx rfl (hb hby d3_34) rfl (XS.iloadN X2.here hx rfl (hb hby d3_35) rfl kk)))) ?_
  obtain ⟨_, _, ⟨T3, L3, k3, n3⟩, -, X3, ⟨Lc3, hQ3, l3, y3, z3⟩, st3⟩ := Jvm.LawKit.callS X2 hx (y := MN12) hown (mvT hZ (wd 37 rfl)) (mvT hZ (wd 38 rfl)) (mvT hZ (wd 39 rfl)) (mvT hZ (wd 40 rfl)) (by decide) (backOf (W := 0) (u_c3_4 l Z a0 hw [] s' c0 c1 c2 c3 ks h0 n0 (by first | omega | exact own_ne (by omega) | exact own_le (by omega) | exact own_lt (by omega)) O SU Vs hc0 hc1 hc2 hc3) hZ (wd 40 rfl) (wd 39 rfl) (by decide) (by decide)) (g := (mkF m 36 #[.val (.ref a), .val (.ref s'), .val (.int (0 : Int32)), .val (.int (4 : Int32)), .val .null, .unset] [(.int (4 : Int32)), (.int (0 : Int32)), (.ref s')])) rfl (by rw [hml]; rfl) (argsL := [(.ref s'), (.int (0 : Int32)), (.int (4 : Int32))]) (rest := []) (lenOf pd___CII__B rfl) rfl (by show 2 * 0 + _ ≤ _; exact Nat.le_of_eq rfl) (hb hby d3_36) (fun _ _ => ⟨rfl, e2, (by decide : 0 + 2 ≤ _), (by decide : 0 + 12 ≤ _)⟩)
  dsimp only [Pt.U, Pt.locs, Pt.cells, Pt.slots] at X3 l3 y3 z3 st3 hQ3
  subst l3 y3 z3
  obtain ⟨b3, k3, rfl, N3q, lo3, K3, H3⟩ := hQ3
  have lo3 := own_nle lo3
  have N3 := Fr.app N0 N3q
  have sz3 := K3.1
  refine go_of (B := (T3.setTop (mkF m 39 #[.val (.ref a), .val (.ref s'), .val (.int (0 : Int32)), .val (.int (4 : Int32)), .val .null, .unset] [(.ref b3)]))) (st3) ?_
  rcases H3 with ⟨hl0, hl1, hl2, hl3, V3⟩ | V3
  · have hi3 := own_nlt (V3.lt)
    refine go_of (B := (T3.setTop (mkF m 45 #[.val (.ref a), .val (.ref s'), .val (.int (0 : Int32)), .val (.int (4 : Int32)), .val .null, .val (.ref b3)] [(.int (4 : Int32)), (.ref b3), (.ref a)]))) (fun _ kk => XS.astore X3.here hx rfl (hb hby d3_39) rfl rfl rfl (XS.aloadN X3.here hx rfl (hb hby d3_41) rfl rfl (XS.aload X3.here hx rfl (hb hby d3_42) rfl rfl (XS.iloadN X3.here hx rfl (hb hby d3_44) rfl kk)))) ?_
    obtain ⟨_, _, ⟨T4, L4, k4, n4⟩, -, X4, ⟨Lc4, hQ4, l4, y4, z4⟩, st4⟩ := Jvm.LawKit.callS X3 hx (y := MN11) hown (mvT hZ (wd 44 rfl)) (mvT hZ (wd 45 rfl)) (mvT hZ (wd 39 rfl)) (mvT hZ (wd 46 rfl)) (by decide) (backOf (W := 1) (str_cf_4 l Z a0 hw [] b3 k3 _ T3.heap n0 (by first | omega | exact own_ne (by omega) | exact own_le (by omega) | exact own_lt (by omega)) V3) hZ (wd 46 rfl) (wd 39 rfl) (by decide) (by decide)) (g := (mkF m 45 #[.val (.ref a), .val (.ref s'), .val (.int (0 : Int32)), .val (.int (4 : Int32)), .val .null, .val (.ref b3)] [(.int (4 : Int32)), (.ref b3), (.ref a)])) rfl (by rw [hml]; rfl) (argsL := [(.ref b3), (.int (4 : Int32))]) (rest := [(.ref a)]) (lenOf pd___BI_B rfl) rfl (by show 2 * 0 + _ ≤ _; exact Nat.le_of_eq rfl) (hb hby d3_45) (fun _ _ => ⟨rfl, rfl, (by decide : 2 + 0 ≤ _), (by decide : 12 + 0 ≤ _)⟩)
    dsimp only [Pt.U, Pt.locs, Pt.cells, Pt.slots] at X4 l4 y4 z4 st4 hQ4
    subst l4 y4 z4
    obtain ⟨rfl, N4q, e4⟩ := hQ4
    have N4 := Fr.app N3 N4q
    refine go_of (B := (T4.setTop (mkF m 48 #[.val (.ref a), .val (.ref s'), .val (.int (0 : Int32)), .val (.int (4 : Int32)), .val .null, .val (.ref b3)] [(.int (0 : Int32)), (.ref a)]))) (st4) ?_
    have cf_5 := (E.keep K3)
    have cf_6 := (F2.keep K3 nin0)
    obtain ⟨T7, h7, X7, e7, W7, st7⟩ := putFN X4 hx hZ hown (wd 26 rfl) Via.refl e4 cf_6 cf_5 (Or.inr ⟨(wd 22 rfl), rfl, hnm⟩) (wd 2 rfl) (ty := .byte) (v' := (.int (nar .byte (0 : Int32)))) (by decide) rfl (fits_nar_byte _) (g := (mkF m 48 #[.val (.ref a), .val (.ref s'), .val (.int (0 : Int32)), .val (.int (4 : Int32)), .val .null, .val (.ref b3)] [(.int (0 : Int32)), (.ref a)])) rfl rfl (hb hby d3_48)
    have sz7 := W7.size
    have Fw7 := cf_6.same W7
    have N7 := Fr.snoc X7 N4 (g : n0 ≤ a)
    refine go_of (B := (T7.setTop (mkF m 51 #[.val (.ref a), .val (.ref s'), .val (.int (0 : Int32)), .val (.int (4 : Int32)), .val .null, .val (.ref b3)] []))) (st7) ?_
    refine go_of (B := (T7.setTop (mkF m 54 #[.val (.ref a), .val (.ref s'), .val (.int (0 : Int32)), .val (.int (4 : Int32)), .val .null, .val (.ref b3)] [(.ref b3), (.ref a)]))) (fun _ kk => XS.aloadN X7.here hx rfl (hb hby d3_51) rfl rfl (XS.aload X7.here hx rfl (hb hby d3_52) rfl rfl kk)) ?_
    have cf_8 := (cf_5.wr W7)
    have cf_9 := ((F.keep K3 nin0).other W7 (Or.inr (slot_ne (Or.inr (wd 21 rfl)) (Or.inr (wd 22 rfl)) (by decide) (t := (.array .byte)) (t' := .byte) (by decide) (by decide))))
    obtain ⟨T10, h10, X10, e10, W10, st10⟩ := putF X7 hx hZ hown (host := "") (Or.inl (wd 25 rfl)) Via.refl e7 cf_9 cf_8 (Or.inr ⟨(wd 21 rfl), rfl, hnm⟩) (wd 2 rfl) (ty := (.array .byte)) (by decide) rfl rfl (g := (mkF m 54 #[.val (.ref a), .val (.ref s'), .val (.int (0 : Int32)), .val (.int (4 : Int32)), .val .null, .val (.ref b3)] [(.ref b3), (.ref a)])) rfl rfl (hb hby d3_54)
    have sz10 := W10.size
    have Fw10 := cf_9.same W10
    have N10 := Fr.snoc X10 N7 (g : n0 ≤ a)
    refine go_of (B := (T10.setTop (mkF m 57 #[.val (.ref a), .val (.ref s'), .val (.int (0 : Int32)), .val (.int (4 : Int32)), .val .null, .val (.ref b3)] []))) (st10) ?_
    have cf_11 := ((V3.other W7 (by first | omega | exact own_ne (by omega) | exact own_le (by omega) | exact own_lt (by omega))).other W10 (by first | omega | exact own_ne (by omega) | exact own_le (by omega) | exact own_lt (by omega)))
    have cf_12 := (Fw7.other W10 (Or.inr (slot_ne (Or.inr (wd 22 rfl)) (Or.inr (wd 21 rfl)) (by decide) (t := .byte) (t' := (.array .byte)) (by decide) (by decide))))
    have cf_13 := (cf_8.wr W10)
    refine go_end X10 (v := none) (fun _ => rfl) Bd.notSynchronized (by decide) (by decide) (Q := (Q_u_i4_4 Z a s' c0 c1 c2 c3 ks gC u u2 h0 n0)) ?_ (fun fs hr => X10.returnOut hx Bd.returns (hb hby d3_57) hr)
    unfold Q_u_i4_4
    try rw [e10]
    exact ⟨rfl, N10, ((((Keep.refl h0 [a]).trans K3 all0).wr W7 (Or.inl (List.mem_of_getElem? (i := 0) rfl))).wr W10 (Or.inl (List.mem_of_getElem? (i := 0) rfl))), Or.inl ⟨b3, k3, cf_13, cf_12, Fw10, cf_11, (own_allc ⟨hc0.1, hl0⟩ (own_allc ⟨hc1.1, hl1⟩ (own_allc ⟨hc2.1, hl2⟩ (own_allc ⟨hc3.1, hl3⟩ (fun _ q => nomatch q)))))⟩⟩
  · have hi3 := own_nlt (V3.lt)
    refine go_of (B := (T3.setTop (mkF m 45 #[.val (.ref a), .val (.ref s'), .val (.int (0 : Int32)), .val (.int (4 : Int32)), .val .null, .val (.ref b3)] [(.int (4 : Int32)), (.ref b3), (.ref a)]))) (fun _ kk => XS.astore X3.here hx rfl (hb hby d3_39) rfl rfl rfl (XS.aloadN X3.here hx rfl (hb hby d3_41) rfl rfl (XS.aload X3.here hx rfl (hb hby d3_42) rfl rfl (XS.iloadN X3.here hx rfl (hb hby d3_44) rfl kk)))) ?_
    obtain ⟨_, _, ⟨T14, L14, k14, n14⟩, -, X14, ⟨Lc14, hQ14, l14, y14, z14⟩, st14⟩ := Jvm.LawKit.callS X3 hx (y := MN11) hown (mvT hZ (wd 44 rfl)) (mvT hZ (wd 45 rfl)) (mvT hZ (wd 39 rfl)) (mvT hZ (wd 46 rfl)) (by decide) (backOf (W := 1) (u_cf_4 l Z a0 hw [] b3 k3 _ T3.heap n0 (by first | omega | exact own_ne (by omega) | exact own_le (by omega) | exact own_lt (by omega)) V3) hZ (wd 46 rfl) (wd 39 rfl) (by decide) (by decide)) (g := (mkF m 45 #[.val (.ref a), .val (.ref s'), .val (.int (0 : Int32)), .val (.int (4 : Int32)), .val .null, .val (.ref b3)] [(.int (4 : Int32)), (.ref b3), (.ref a)])) rfl (by rw [hml]; rfl) (argsL := [(.ref b3), (.int (4 : Int32))]) (rest := [(.ref a)]) (lenOf pd___BI_B rfl) rfl (by show 2 * 0 + _ ≤ _; exact Nat.le_of_eq rfl) (hb hby d3_45) (fun _ _ => ⟨rfl, rfl, (by decide : 2 + 0 ≤ _), (by decide : 12 + 0 ≤ _)⟩)
    dsimp only [Pt.U, Pt.locs, Pt.cells, Pt.slots] at X14 l14 y14 z14 st14 hQ14
    subst l14 y14 z14
    obtain ⟨rfl, N14q, e14⟩ := hQ14
    have N14 := Fr.app N3 N14q
    refine go_of (B := (T14.setTop (mkF m 48 #[.val (.ref a), .val (.ref s'), .val (.int (0 : Int32)), .val (.int (4 : Int32)), .val .null, .val (.ref b3)] [(.int (1 : Int32)), (.ref a)]))) (st14) ?_
    have cf_15 := (E.keep K3)
    have cf_16 := (F2.keep K3 nin0)
    obtain ⟨T17, h17, X17, e17, W17, st17⟩ := putFN X14 hx hZ hown (wd 26 rfl) Via.refl e14 cf_16 cf_15 (Or.inr ⟨(wd 22 rfl), rfl, hnm⟩) (wd 2 rfl) (ty := .byte) (v' := (.int (nar .byte (1 : Int32)))) (by decide) rfl (fits_nar_byte _) (g := (mkF m 48 #[.val (.ref a), .val (.ref s'), .val (.int (0 : Int32)), .val (.int (4 : Int32)), .val .null, .val (.ref b3)] [(.int (1 : Int32)), (.ref a)])) rfl rfl (hb hby d3_48)
    have sz17 := W17.size
    have Fw17 := cf_16.same W17
    have N17 := Fr.snoc X17 N14 (g : n0 ≤ a)
    refine go_of (B := (T17.setTop (mkF m 51 #[.val (.ref a), .val (.ref s'), .val (.int (0 : Int32)), .val (.int (4 : Int32)), .val .null, .val (.ref b3)] []))) (st17) ?_
    refine go_of (B := (T17.setTop (mkF m 54 #[.val (.ref a), .val (.ref s'), .val (.int (0 : Int32)), .val (.int (4 : Int32)), .val .null, .val (.ref b3)] [(.ref b3), (.ref a)]))) (fun _ kk => XS.aloadN X17.here hx rfl (hb hby d3_51) rfl rfl (XS.aload X17.here hx rfl (hb hby d3_52) rfl rfl kk)) ?_
    have cf_18 := (cf_15.wr W17)
    have cf_19 := ((F.keep K3 nin0).other W17 (Or.inr (slot_ne (Or.inr (wd 21 rfl)) (Or.inr (wd 22 rfl)) (by decide) (t := (.array .byte)) (t' := .byte) (by decide) (by decide))))
    obtain ⟨T20, h20, X20, e20, W20, st20⟩ := putF X17 hx hZ hown (host := "") (Or.inl (wd 25 rfl)) Via.refl e17 cf_19 cf_18 (Or.inr ⟨(wd 21 rfl), rfl, hnm⟩) (wd 2 rfl) (ty := (.array .byte)) (by decide) rfl rfl (g := (mkF m 54 #[.val (.ref a), .val (.ref s'), .val (.int (0 : Int32)), .val (.int (4 : Int32)), .val .null, .val (.ref b3)] [(.ref b3), (.ref a)])) rfl rfl (hb hby d3_54)
    have sz20 := W20.size
    have Fw20 := cf_19.same W20
    have N20 := Fr.snoc X20 N17 (g : n0 ≤ a)
    refine go_of (B := (T20.setTop (mkF m 57 #[.val (.ref a), .val (.ref s'), .val (.int (0 : Int32)), .val (.int (4 : Int32)), .val .null, .val (.ref b3)] []))) (st20) ?_
    have cf_21 := ((V3.other W17 (by first | omega | exact own_ne (by omega) | exact own_le (by omega) | exact own_lt (by omega))).other W20 (by first | omega | exact own_ne (by omega) | exact own_le (by omega) | exact own_lt (by omega)))
    have cf_22 := (Fw17.other W20 (Or.inr (slot_ne (Or.inr (wd 22 rfl)) (Or.inr (wd 21 rfl)) (by decide) (t := .byte) (t' := (.array .byte)) (by decide) (by decide))))
    have cf_23 := (cf_18.wr W20)
    refine go_end X20 (v := none) (fun _ => rfl) Bd.notSynchronized (by decide) (by decide) (Q := (Q_u_i4_4 Z a s' c0 c1 c2 c3 ks gC u u2 h0 n0)) ?_ (fun fs hr => X20.returnOut hx Bd.returns (hb hby d3_57) hr)
    unfold Q_u_i4_4
    try rw [e20]
    exact ⟨rfl, N20, ((((Keep.refl h0 [a]).trans K3 all0).wr W17 (Or.inl (List.mem_of_getElem? (i := 0) rfl))).wr W20 (Or.inl (List.mem_of_getElem? (i := 0) rfl))), Or.inr ⟨b3, k3, cf_23, cf_22, Fw20, cf_21, (own_allc hc0 (own_allc hc1 (own_allc hc2 (own_allc hc3 (fun _ q => nomatch q)))))⟩⟩
def Q_u_i1_4 (Z : State) (a : Addr) (s' : Addr) (c0 : Int32) (c1 : Int32) (c2 : Int32) (c3 : Int32) (ks : ClassId) (gC : Int32) (u : Value) (u2 : Value) (h0 : Heap) (n0 : Nat) (v : Option Value) (h : Heap) (L : List Loc) : Prop := v = none ∧ Fr n0 L ∧ Keep h0 h [a] ∧ StrU Z h a 4 8 [c0, c1, c2, c3]
theorem ef_u_i1_4 (m : MethodId) (a : Addr) (s' : Addr)  : entryFrame m #[(.ref a), (.ref s')] 2 = mkF m 0 #[.val (.ref a), .val (.ref s')] [] := by first | (simp [entryFrame, mkF, argsToLocals, Value.category]; done) | rfl
theorem u_i1_4 (l : Launch) (Z : State) (a0 : Array Value) (hw : TW a0 Z) (ws : List Jvm.Cond) (a : Addr) (s' : Addr) (c0 : Int32) (c1 : Int32) (c2 : Int32) (c3 : Int32) (ks : ClassId) (gC : Int32) (u : Value) (u2 : Value) (h0 : Heap) (n0 : Nat) (Z0 : n0 ≤ h0.size) (O : Old Z n0 h0) (SC : Sta Z Z.heap "java/lang/String" "COMPACT_STRINGS" "Z" (.int gC)) (hgC : ¬ gC = (0 : Int32)) (SU : US Z) (E : Exa Z h0 a "java/lang/String") (F : Fld Z h0 a "java/lang/String" "value" "[B" u) (F2 : Fld Z h0 a "java/lang/String" "coder" "B" u2) (g : n0 ≤ a) (Vs : Arv Z h0 s' ks .char 4 [(.int c0), (.int c1), (.int c2), (.int c3)] (.int 0)) (hc0 : ¬ c0 < 0 ∧ ¬ (65535 : Int32) < c0) (hc1 : ¬ c1 < 0 ∧ ¬ (65535 : Int32) < c1) (hc2 : ¬ c2 < 0 ∧ ¬ (65535 : Int32) < c2) (hc3 : ¬ c3 < 0 ∧ ¬ (65535 : Int32) < c3) :
    own_MF l Z MN3 jdk_42_method_3_code 2 none ws (own_R 5 2 12 74) #[(.ref a), (.ref s')] h0 (Q_u_i1_4 Z a s' c0 c1 c2 c3 ks gC u u2 h0 n0) := by
  have wd := @own_wd _ _ hw
  refine MetFree.of_bodySF (plainFor_of_name pn_java_lang_String) hisR ?_
  intro p e s m args below meth c s₁ Bd hml0 hP hK
  obtain ⟨rfl, hZ, hh⟩ := hP
  have hx := Bd.exec
  have hby := Bd.bytes
  have hml : c.maxLocals = 2 := hml0
  have hown : s.vm.findClass "java/lang/String" = some m.cls := findClass_of_methodNamed Bd.named
  have hnm := (name_of_methodNamed Bd.named Bd.method).1
  have X0 : Stand p l e (own_R 5 2 12 74) s m #[(.ref a), (.ref s')] below meth c s₁ [] 0 0 := Stand.of_body Bd
  have e0 : s₁.heap = h0 := by rw [← hh, Bd.state]; rfl
  have N0 := Fr.nil n0
  have lta := own_nlt (E.lt)
  have lts := own_nlt (Vs.lt)
  refine go_of (A := s₁.setTop (entryFrame m #[(.ref a), (.ref s')] 2)) (B := s₁.setTop (mkF m 0 #[.val (.ref a), .val (.ref s')] [])) (fun _ kk' => castTop (ef_u_i1_4 m a s') kk') ?_
  refine go_of (B := (s₁.setTop (mkF m 4 #[.val (.ref a), .val (.ref s')] [(.ref s'), (.int (0 : Int32)), (.ref s'), (.ref a)]))) (fun _ kk => XS.aloadN X0.here hx rfl (hb hby d2_0) rfl rfl (XS.aloadN X0.here hx rfl (hb hby d2_1) rfl rfl (XS.iconst X0.here hx rfl (hb hby d2_2) (XS.aloadN X0.here hx rfl (hb hby d2_3) rfl rfl kk)))) ?_
  obtain ⟨cl1, Ar1, q1, Sz1, Nn1, Hh1, G1⟩ := id (Vs)
  have ln1 := len_of Sz1 Nn1
  refine go_of (B := (s₁.setTop (mkF m 5 #[.val (.ref a), .val (.ref s')] [(.int (4 : Int32)), (.int (0 : Int32)), (.ref s'), (.ref a)]))) (fun _ kk => X0.arraylength hx (by rw [e0]; exact Ar1.1) (State.isArrayOf_alike hZ.alike Ar1.2.1) (g := (mkF m 4 #[.val (.ref a), .val (.ref s')] [(.ref s'), (.int (0 : Int32)), (.ref s'), (.ref a)])) rfl rfl (hb hby d2_4) _ (by rw [ln1]; exact kk)) ?_
  refine go_of (B := (s₁.setTop (mkF m 6 #[.val (.ref a), .val (.ref s')] [.null, (.int (4 : Int32)), (.int (0 : Int32)), (.ref s'), (.ref a)]))) (fun _ kk => XS.aconstNull X0.here hx rfl (hb hby d2_5) kk) ?_
  obtain ⟨_, _, ⟨T2, L2, k2, n2⟩, -, X2, ⟨Lc2, hQ2, l2, y2, z2⟩, st2⟩ := X0.specialBack hx (y := MN4) rfl hown (mvT hZ (wd 12 rfl)) (mvT hZ (wd 13 rfl)) (mvT hZ (wd 15 rfl)) (by decide) (backOf (W := 0) (u_i4_4 l Z a0 hw [] a s' c0 c1 c2 c3 ks gC u u2 h0 n0 (by first | omega | exact own_ne (by omega) | exact own_le (by omega) | exact own_lt (by omega)) O SC hgC SU E F F2 g Vs hc0 hc1 hc2 hc3) hZ (wd 15 rfl) (wd 3 rfl) (by decide) (by decide)) (g := (mkF m 6 #[.val (.ref a), .val (.ref s')] [.null, (.int (4 : Int32)), (.int (0 : Int32)), (.ref s'), (.ref a)])) rfl (by rw [hml]; rfl) (Steps.refl _) (a := a) (argsL := [(.ref s'), (.int (0 : Int32)), (.int (4 : Int32)), .null]) (rest := []) (lenOf pd___CIILjava_lang_Void__V rfl) rfl (by show 2 * 0 + _ ≤ _; exact Nat.le_of_eq rfl) (hb hby d2_6) (fun _ _ => ⟨rfl, e0, (by decide : 0 + 2 ≤ _), (by decide : 0 + 12 ≤ _)⟩)
  dsimp only [Pt.U, Pt.locs, Pt.cells, Pt.slots] at X2 l2 y2 z2 st2 hQ2
  subst l2 y2 z2
  obtain ⟨rfl, N2q, K2, S2⟩ := hQ2
  have N2 := Fr.app N0 N2q
  have sz2 := K2.1
  refine go_tr (B := (T2.setTop (mkF m 9 #[.val (.ref a), .val (.ref s')] []))) (st2) ?_
  refine go_end X2 (v := none) (fun _ => rfl) Bd.notSynchronized (by decide) (by decide) (Q := (Q_u_i1_4 Z a s' c0 c1 c2 c3 ks gC u u2 h0 n0)) ?_ (fun fs hr => X2.returnOut hx Bd.returns (hb hby d2_9) hr)
  unfold Q_u_i1_4
  exact ⟨rfl, N2, ((Keep.refl h0 [a]).trans K2 (allS (Or.inl (List.mem_of_getElem? (i := 0) rfl)) all0)), S2⟩
theorem own_okk (c : Int32) : (own_oki c = 0) = (own_okB c = false) := by unfold own_oki; cases own_okB c <;> simp
theorem pd__ICCCC__C : parseMethodDescriptor "(ICCCC)[C" = some ⟨[.int, .char, .char, .char, .char], some (.array .char)⟩ := by decide +kernel
theorem pd___C_V : parseMethodDescriptor "([C)V" = some ⟨[(.array .char)], none⟩ := by decide +kernel
theorem pd__Ljava_lang_String_I_Z : parseMethodDescriptor "(Ljava/lang/String;I)Z" = some ⟨[(.object "java/lang/String"), .int], some .boolean⟩ := by decide +kernel
def Q_rm0 (Z : State) (sl : Int32) (mx : Int32) (xa : Int32) (xb : Int32) (xc : Int32) (xd : Int32) (gC : Int32) (gF : Value) (h0 : Heap) (n0 : Nat) (v : Option Value) (h : Heap) (L : List Loc) : Prop := v = some (.int 1) ∧ Fr n0 L
theorem lw0 {p : Program} {l : Launch} {e : Env} {s : State} {m : MethodId} {args : Array Value} {below : List Frame} {meth : Method} {c : Code} {Z : State} {a0 : Array Value} {h0 : Heap} {n0 : Nat} (sl : Int32) (mx : Int32) (xa : Int32) (xb : Int32) (xc : Int32) (xd : Int32) (gC : Int32) (gF : Value) {T0 : State} {locs : List Loc}
    (X0 : Stand p l e room_1 s m args below meth c T0 locs 0 0) (hx : p.tables.exec = Jvm.exec) (hZ : Z.Warmed39 s.vm) (hw : TW a0 Z) (hby : c.code = code) (hml : c.maxLocals = 13) (hown : s.vm.findClass "com/example/libpubid/libpubid/store/NamesIsNamePinLaw" = some m.cls) (hret : meth.sig.returnType = (some .boolean)) (hlk : meth.locks = false) (e0 : T0.heap = h0) (N0 : Fr n0 locs) (Z0 : n0 ≤ h0.size) (O : Old Z n0 h0) (SC : Sta Z Z.heap "java/lang/String" "COMPACT_STRINGS" "Z" (.int gC)) (hgC : ¬ gC = (0 : Int32)) (SU : US Z) (SF : Sta Z Z.heap "jdk/internal/util/Preconditions" "SIOOBE_FORMATTER" "Ljava/util/function/BiFunction;" gF) (rgF : gF.isRef = true) (hh0 : s.heap = h0) (hCH : CHv Z own_EL s.vm h0) :
    Go p e below (T0.setTop (mkF m 8 #[.val (.int sl), .val (.int mx), .val (.int xa), .val (.int xb), .val (.int xc), .val (.int xd), .val (.int (0 : Int32)), .unset, .unset, .unset, .unset, .unset, .unset] [])) (fun oo' U2' => ∃ vv' LL', oo' = .returned vv' ∧ (Q_rm0 Z sl mx xa xb xc xd gC gF h0 n0) vv' U2'.heap LL' ∧ CHr Z own_EL s.vm s.heap U2'.vm U2'.heap ∧ ReturnedEndW s oo' U2' LL' room_1.cells room_1.slots) := by
  have wd := @own_wd _ _ hw
  have X0 : Stand p l e room_1 (s.setVm s.vm) m args below meth c T0 locs 0 0 := X0
  have hS : s.Since s.vm 0 := (State.WarmedH.refl s).since 0
  have hEL := own_EW hw
  have HC0 := CHr.refl hCH
  refine go_of (B := (T0.setTop (mkF m 16 #[.val (.int sl), .val (.int mx), .val (.int xa), .val (.int xb), .val (.int xc), .val (.int xd), .val (.int (0 : Int32)), .val (.int (own_cc xa)), .unset, .unset, .unset, .unset, .unset] [(.int xb)]))) (fun _ kk => XS.iloadN X0.here hx rfl (hb hby at_8) rfl (X0.ldcInt hx hown (mvT hZ (wd 0 rfl)) (g := (mkF m 9 #[.val (.int sl), .val (.int mx), .val (.int xa), .val (.int xb), .val (.int xc), .val (.int xd), .val (.int (0 : Int32)), .unset, .unset, .unset, .unset, .unset, .unset] [(.int xa)])) rfl (hb hby at_9) _ (XS.iand X0.here hx rfl (hb hby at_11) rfl (XS.i2c X0.here hx rfl (hb hby at_12) rfl (XS.istore X0.here hx rfl (hb hby at_13) rfl rfl (XS.iloadN X0.here hx rfl (hb hby at_15) rfl kk)))))) ?_
  refine go_of (B := (T0.setTop (mkF m 26 #[.val (.int sl), .val (.int mx), .val (.int xa), .val (.int xb), .val (.int xc), .val (.int xd), .val (.int (0 : Int32)), .val (.int (own_cc xa)), .val (.int (own_cc xb)), .unset, .unset, .unset, .unset] [(.int (65535 : Int32)), (.int xc)]))) (fun _ kk => X0.ldcInt hx hown (mvT hZ (wd 0 rfl)) (g := (mkF m 16 #[.val (.int sl), .val (.int mx), .val (.int xa), .val (.int xb), .val (.int xc), .val (.int xd), .val (.int (0 : Int32)), .val (.int (own_cc xa)), .unset, .unset, .unset, .unset, .unset] [(.int xb)])) rfl (hb hby at_16) _ (XS.iand X0.here hx rfl (hb hby at_18) rfl (XS.i2c X0.here hx rfl (hb hby at_19) rfl (XS.istore X0.here hx rfl (hb hby at_20) rfl rfl (XS.iload X0.here hx rfl (hb hby at_22) rfl (X0.ldcInt hx hown (mvT hZ (wd 0 rfl)) (g := (mkF m 24 #[.val (.int sl), .val (.int mx), .val (.int xa), .val (.int xb), .val (.int xc), .val (.int xd), .val (.int (0 : Int32)), .val (.int (own_cc xa)), .val (.int (own_cc xb)), .unset, .unset, .unset, .unset] [(.int xc)])) rfl (hb hby at_24) _ kk)))))) ?_
  refine go_of (B := (T0.setTop (mkF m 35 #[.val (.int sl), .val (.int mx), .val (.int xa), .val (.int xb), .val (.int xc), .val (.int xd), .val (.int (0 : Int32)), .val (.int (own_cc xa)), .val (.int (own_cc xb)), .val (.int (own_cc xc)), .unset, .unset, .unset] [(.int (xd &&& (65535 : Int32)))]))) (fun _ kk => XS.iand X0.here hx rfl (hb hby at_26) rfl (XS.i2c X0.here hx rfl (hb hby at_27) rfl (XS.istore X0.here hx rfl (hb hby at_28) rfl rfl (XS.iload X0.here hx rfl (hb hby at_30) rfl (X0.ldcInt hx hown (mvT hZ (wd 0 rfl)) (g := (mkF m 32 #[.val (.int sl), .val (.int mx), .val (.int xa), .val (.int xb), .val (.int xc), .val (.int xd), .val (.int (0 : Int32)), .val (.int (own_cc xa)), .val (.int (own_cc xb)), .val (.int (own_cc xc)), .unset, .unset, .unset] [(.int xd)])) rfl (hb hby at_32) _ (XS.iand X0.here hx rfl (hb hby at_34) rfl kk)))))) ?_
  refine go_of (B := (T0.setTop (mkF m 38 #[.val (.int sl), .val (.int mx), .val (.int xa), .val (.int xb), .val (.int xc), .val (.int xd), .val (.int (0 : Int32)), .val (.int (own_cc xa)), .val (.int (own_cc xb)), .val (.int (own_cc xc)), .val (.int (own_cc xd)), .unset, .unset] []))) (fun _ kk => XS.i2c X0.here hx rfl (hb hby at_35) rfl (XS.istore X0.here hx rfl (hb hby at_36) rfl rfl kk)) ?_
  obtain ⟨T1, h1, X1, e1, E1, A1, D1, -, st1⟩ := newO X0 hx hZ hown (wd 1 rfl) (wd 2 rfl) (wd 3 rfl) e0 (g := (mkF m 38 #[.val (.int sl), .val (.int mx), .val (.int xa), .val (.int xb), .val (.int xc), .val (.int xd), .val (.int (0 : Int32)), .val (.int (own_cc xa)), .val (.int (own_cc xb)), .val (.int (own_cc xc)), .val (.int (own_cc xd)), .unset, .unset] [])) rfl (hb hby at_38) (by decide) (by decide)
  obtain ⟨b1, g1⟩ : ∃ z, z = h0.size := ⟨_, rfl⟩
  rw [← g1] at A1 D1 st1
  have hi1 := own_nlt A1.lt
  have sz1 := E1.1
  have HC1 := HC0.trans (CHr.ext E1 HC0.1)
  have F1_value : Fld Z h1 b1 "java/lang/String" "value" "[B" .null := D1 (Or.inr (wd 21 rfl)) (ty := (.array .byte)) (by decide)
  have F1_coder : Fld Z h1 b1 "java/lang/String" "coder" "B" (.int (0 : Int32)) := D1 (Or.inr (wd 22 rfl)) (ty := .byte) (by decide)
  refine go_of (B := (T1.setTop (mkF m 41 #[.val (.int sl), .val (.int mx), .val (.int xa), .val (.int xb), .val (.int xc), .val (.int xd), .val (.int (0 : Int32)), .val (.int (own_cc xa)), .val (.int (own_cc xb)), .val (.int (own_cc xc)), .val (.int (own_cc xd)), .unset, .unset] [(.ref b1)]))) (st1) ?_
  refine go_of (B := (T1.setTop (mkF m 52 #[.val (.int sl), .val (.int mx), .val (.int xa), .val (.int xb), .val (.int xc), .val (.int xd), .val (.int (0 : Int32)), .val (.int (own_cc xa)), .val (.int (own_cc xb)), .val (.int (own_cc xc)), .val (.int (own_cc xd)), .unset, .unset] [(.int (own_cc xd)), (.int (own_cc xc)), (.int (own_cc xb)), (.int (own_cc xa)), (.int (0 : Int32)), (.ref b1), (.ref b1)]))) (fun _ kk => XS.dup X1.here hx rfl (hb hby at_41) rfl rfl (XS.iload X1.here hx rfl (hb hby at_42) rfl (XS.iload X1.here hx rfl (hb hby at_44) rfl (XS.iload X1.here hx rfl (hb hby at_46) rfl (XS.iload X1.here hx rfl (hb hby at_48) rfl (XS.iload X1.here hx rfl (hb hby at_50) rfl kk)))))) ?_
  obtain ⟨_, _, ⟨T2, L2, k2, n2⟩, -, X2, ⟨Lc2, hQ2, l2, y2, z2⟩, st2⟩ := Jvm.LawKit.callS X1 hx (y := MN1) hown (mvT hZ (wd 4 rfl)) (mvT hZ (wd 5 rfl)) (mvT hZ (wd 6 rfl)) (mvT hZ (wd 7 rfl)) (by decide) (backOf (W := 2) (bu_0 l Z a0 hw [] (own_cc xa) (own_cc xb) (own_cc xc) (own_cc xd) h1 n0 (by first | omega | exact own_ne (by omega) | exact own_le (by omega) | exact own_lt (by omega)) (own_ccr xa) (own_ccr xb) (own_ccr xc) (own_ccr xd)) hZ (wd 7 rfl) (wd 6 rfl) (by decide) (by decide)) (g := (mkF m 52 #[.val (.int sl), .val (.int mx), .val (.int xa), .val (.int xb), .val (.int xc), .val (.int xd), .val (.int (0 : Int32)), .val (.int (own_cc xa)), .val (.int (own_cc xb)), .val (.int (own_cc xc)), .val (.int (own_cc xd)), .unset, .unset] [(.int (own_cc xd)), (.int (own_cc xc)), (.int (own_cc xb)), (.int (own_cc xa)), (.int (0 : Int32)), (.ref b1), (.ref b1)])) rfl (by rw [hml]; rfl) (argsL := [(.int (0 : Int32)), (.int (own_cc xa)), (.int (own_cc xb)), (.int (own_cc xc)), (.int (own_cc xd))]) (rest := [(.ref b1), (.ref b1)]) (lenOf pd__ICCCC__C rfl) rfl (by show 2 * 0 + _ ≤ _; exact Nat.le_of_eq rfl) (hb hby at_52) (fun _ _ => ⟨rfl, e1, (by decide : 1 + 1 ≤ _), (by decide : 4 + 0 ≤ _)⟩)
  dsimp only [Pt.U, Pt.locs, Pt.cells, Pt.slots] at X2 l2 y2 z2 st2 hQ2
  subst l2 y2 z2
  obtain ⟨b2, k2, rfl, N2q, lo2, K2, V2⟩ := hQ2
  have lo2 := own_nle lo2
  have N2 := Fr.app N0 N2q
  have hi2 := own_nlt (V2.lt)
  have sz2 := K2.1
  have SK2 : ∀ x ∈ ([] : List Addr), Safe Z own_EL s.vm h1 x := all0
  have HC2 := HC1.trans (CHr.keep K2 SK2 HC1.1)
  refine go_of (B := (T2.setTop (mkF m 55 #[.val (.int sl), .val (.int mx), .val (.int xa), .val (.int xb), .val (.int xc), .val (.int xd), .val (.int (0 : Int32)), .val (.int (own_cc xa)), .val (.int (own_cc xb)), .val (.int (own_cc xc)), .val (.int (own_cc xd)), .unset, .unset] [(.ref b2), (.ref b1), (.ref b1)]))) (st2) ?_
  have cf_3 := (A1.keep K2)
  have cf_4 := (F1_value.keep K2 nin0)
  have cf_5 := (F1_coder.keep K2 nin0)
  obtain ⟨_, _, ⟨T6, L6, k6, n6⟩, -, X6', hS6', gr6, ⟨Lc6, hQ6, l6, y6, z6, HR6⟩, st6⟩ := X2.specialBackS hx (y := MN3) rfl hown (mvT hZ (wd 9 rfl)) (mvT hZ (wd 10 rfl)) (mvT hZ (wd 11 rfl)) (by decide) (backOfSH (W := 1) (str_i1_0 l Z a0 hw [] b1 b2 _ k2 T2.heap n0 (by first | omega | exact own_ne (by omega) | exact own_le (by omega) | exact own_lt (by omega)) cf_3 cf_4 cf_5 (by first | omega | exact own_ne (by omega) | exact own_le (by omega) | exact own_lt (by omega)) V2) hZ (wd 11 rfl) (wd 3 rfl) (by decide) (by decide) hEL HC2.1) (g := (mkF m 55 #[.val (.int sl), .val (.int mx), .val (.int xa), .val (.int xb), .val (.int xc), .val (.int xd), .val (.int (0 : Int32)), .val (.int (own_cc xa)), .val (.int (own_cc xb)), .val (.int (own_cc xc)), .val (.int (own_cc xd)), .unset, .unset] [(.ref b2), (.ref b1), (.ref b1)])) rfl (by rw [hml]; rfl) (Steps.refl _) (a := b1) (argsL := [(.ref b2)]) (rest := [(.ref b1)]) (lenOf pd___C_V rfl) rfl (by show 2 * 0 + _ ≤ _; exact Nat.le_of_eq rfl) (hb hby at_55) (fun _ _ => ⟨rfl, rfl, (by decide : 2 + 4 ≤ _), (by decide : 4 + 8 ≤ _)⟩)
  dsimp only [Pt.U, Pt.locs, Pt.cells, Pt.slots] at X6' hS6' gr6 l6 y6 z6 st6 hQ6 HR6
  subst l6 y6 z6
  have X6 : Stand _ _ _ _ (s.setVm T6.vm) _ _ _ _ _ T6 _ _ _ := X6'
  have hS : s.Since T6.vm T6.heap.size := foldS hS (by first | omega | exact own_ne (by omega) | exact own_le (by omega) | exact own_lt (by omega)) hS6' gr6
  have hZ : Z.Warmed39 (s.setVm T6.vm).vm := State.Warmed39.trans (t := s.setVm s.vm) hZ hS6'.1
  have hown : (s.setVm T6.vm).vm.findClass "com/example/libpubid/libpubid/store/NamesIsNamePinLaw" = some m.cls := by rw [show (s.setVm T6.vm).vm = T6.vm from rfl, hS6'.1.alike.findClass]; exact hown
  obtain ⟨rfl, N6q, K6, S6⟩ := hQ6
  have N6 := Fr.app N2 N6q
  have sz6 := K6.1
  have HC6 := HC2.trans HR6
  refine go_tr (B := (T6.setTop (mkF m 58 #[.val (.int sl), .val (.int mx), .val (.int xa), .val (.int xb), .val (.int xc), .val (.int xd), .val (.int (0 : Int32)), .val (.int (own_cc xa)), .val (.int (own_cc xb)), .val (.int (own_cc xc)), .val (.int (own_cc xd)), .unset, .unset] [(.ref b1)]))) (st6) ?_
  refine go_of (B := (T6.setTop (mkF m 60 #[.val (.int sl), .val (.int mx), .val (.int xa), .val (.int xb), .val (.int xc), .val (.int xd), .val (.int (0 : Int32)), .val (.int (own_cc xa)), .val (.int (own_cc xb)), .val (.int (own_cc xc)), .val (.int (own_cc xd)), .val (.ref b1), .unset] []))) (fun _ kk => XS.astore X6.here hx rfl (hb hby at_58) rfl rfl rfl kk) ?_
  have HJ7 : ∀ (Tj7 : State) (Lj7 : List Loc), Stand p l e room_1 (s.setVm T6.vm) m args below meth c Tj7 Lj7 6 12 → Tj7.heap = T6.heap → Fr n0 Lj7 → ∀ (xe : Int32), xe = 0 → Go p e below (Tj7.setTop (mkF m 135 #[.val (.int sl), .val (.int mx), .val (.int xa), .val (.int xb), .val (.int xc), .val (.int xd), .val (.int (0 : Int32)), .val (.int (own_cc xa)), .val (.int (own_cc xb)), .val (.int (own_cc xc)), .val (.int (own_cc xd)), .val (.ref b1), .val (.int xe)] [])) (fun oo' U2' => ∃ vv' LL', oo' = .returned vv' ∧ (Q_rm0 Z sl mx xa xb xc xd gC gF h0 n0) vv' U2'.heap LL' ∧ CHr Z own_EL s.vm s.heap U2'.vm U2'.heap ∧ ReturnedEndW s oo' U2' LL' room_1.cells room_1.slots) := by
    intro Tj7 Lj7 Xj7 ej7 Nj7 xe hjHJ7
    refine go_of (B := (Tj7.setTop (mkF m 138 #[.val (.int sl), .val (.int mx), .val (.int xa), .val (.int xb), .val (.int xc), .val (.int xd), .val (.int (0 : Int32)), .val (.int (own_cc xa)), .val (.int (own_cc xb)), .val (.int (own_cc xc)), .val (.int (own_cc xd)), .val (.ref b1), .val (.int xe)] [(.int mx), (.ref b1)]))) (fun _ kk => XS.aload Xj7.here hx rfl (hb hby at_135) rfl rfl (XS.iloadN Xj7.here hx rfl (hb hby at_137) rfl kk)) ?_
    have cf_8 := (((O.ext E1).keep K2 all0).keep K6 (allS (by first | omega | exact own_ne (by omega) | exact own_le (by omega) | exact own_lt (by omega)) all0))
    obtain ⟨_, _, ⟨T9, L9, k9, n9⟩, -, X9, ⟨Lc9, hQ9, l9, y9, z9⟩, st9⟩ := Jvm.LawKit.callS Xj7 hx (y := MN0) hown (mvT hZ (wd 27 rfl)) (mvT hZ (wd 28 rfl)) (mvT hZ (wd 29 rfl)) (mvT hZ (wd 30 rfl)) (by decide) (backOf (W := 0) (nam_0 l Z a0 hw [] b1 mx  gC gF T6.heap n0 (by first | omega | exact own_ne (by omega) | exact own_le (by omega) | exact own_lt (by omega)) cf_8 SC hgC S6 SU SF rgF) hZ (wd 30 rfl) (wd 29 rfl) (by decide) (by decide)) (g := (mkF m 138 #[.val (.int sl), .val (.int mx), .val (.int xa), .val (.int xb), .val (.int xc), .val (.int xd), .val (.int (0 : Int32)), .val (.int (own_cc xa)), .val (.int (own_cc xb)), .val (.int (own_cc xc)), .val (.int (own_cc xd)), .val (.ref b1), .val (.int xe)] [(.int mx), (.ref b1)])) rfl (by rw [hml]; rfl) (argsL := [(.ref b1), (.int mx)]) (rest := []) (lenOf pd__Ljava_lang_String_I_Z rfl) rfl (by show 2 * 0 + _ ≤ _; exact Nat.le_of_eq rfl) (hb hby at_138) (fun _ _ => ⟨rfl, ej7, (by decide : 6 + 0 ≤ _), (by decide : 12 + 0 ≤ _)⟩)
    dsimp only [Pt.U, Pt.locs, Pt.cells, Pt.slots] at X9 l9 y9 z9 st9 hQ9
    subst l9 y9 z9
    obtain ⟨rfl, N9q, e9⟩ := hQ9
    have N9 := Fr.app Nj7 N9q
    refine go_of (B := (T9.setTop (mkF m 141 #[.val (.int sl), .val (.int mx), .val (.int xa), .val (.int xb), .val (.int xc), .val (.int xd), .val (.int (0 : Int32)), .val (.int (own_cc xa)), .val (.int (own_cc xb)), .val (.int (own_cc xc)), .val (.int (own_cc xd)), .val (.ref b1), .val (.int xe)] [(.int (0 : Int32))]))) (st9) ?_
    refine go_of (B := (T9.setTop (mkF m 151 #[.val (.int sl), .val (.int mx), .val (.int xa), .val (.int xb), .val (.int xc), .val (.int xd), .val (.int (0 : Int32)), .val (.int (own_cc xa)), .val (.int (own_cc xb)), .val (.int (own_cc xc)), .val (.int (own_cc xd)), .val (.ref b1), .val (.int xe)] [(.int (1 : Int32))]))) (fun _ kk => XS.iload X9.here hx rfl (hb hby at_141) rfl (XS.icmpNo X9.here hx rfl (hb hby at_143) rfl (teq hjHJ7.symm).2 (XS.iconst X9.here hx rfl (hb hby at_146) (XS.goto X9.here hx rfl (pc0 := 147) (pc' := 151) rfl (hb hby at_147) (by decide) (by decide) kk)))) ?_
    refine go_endH X9 hZ hEL HC6 hh0 e9 hS (by rw [e9]; omega) (v := some (.int (nar .boolean (1 : Int32)))) (fun h => by rw [hret] at h; cases h) hlk (by decide) (by decide) (Q := (Q_rm0 Z sl mx xa xb xc xd gC gF h0 n0)) ?_ (fun fs hr => retN X9 hx (t := .boolean) hret (by simp) (hb hby at_151) hr)
    unfold Q_rm0
    try rw [e9]
    exact ⟨rfl, N9⟩
  refine go_of (B := (T6.setTop (mkF m 135 #[.val (.int sl), .val (.int mx), .val (.int xa), .val (.int xb), .val (.int xc), .val (.int xd), .val (.int (0 : Int32)), .val (.int (own_cc xa)), .val (.int (own_cc xb)), .val (.int (own_cc xc)), .val (.int (own_cc xd)), .val (.ref b1), .val (.int (0 : Int32))] []))) (fun _ kk => XS.iload X6.here hx rfl (hb hby at_60) rfl (XS.iconst X6.here hx rfl (hb hby at_62) (XS.icmpYes X6.here hx rfl (pc0 := 63) (pc' := 132) rfl (hb hby at_63) rfl (tlt (by decide : (0 : Int32) < (1 : Int32))).1 (by decide) (by decide) (XS.iconst X6.here hx rfl (hb hby at_132) (XS.istore X6.here hx rfl (hb hby at_133) rfl rfl kk))))) ?_
  exact HJ7 _ _ X6 rfl N6 (0 : Int32) rfl
theorem pd__C_Z : parseMethodDescriptor "(C)Z" = some ⟨[.char], some .boolean⟩ := by decide +kernel
theorem lw1 {p : Program} {l : Launch} {e : Env} {s : State} {m : MethodId} {args : Array Value} {below : List Frame} {meth : Method} {c : Code} {Z : State} {a0 : Array Value} {h0 : Heap} {n0 : Nat} (sl : Int32) (mx : Int32) (xa : Int32) (xb : Int32) (xc : Int32) (xd : Int32) (gC : Int32) (gF : Value) {T0 : State} {locs : List Loc}
    (X0 : Stand p l e room_1 s m args below meth c T0 locs 0 0) (hx : p.tables.exec = Jvm.exec) (hZ : Z.Warmed39 s.vm) (hw : TW a0 Z) (hby : c.code = code) (hml : c.maxLocals = 13) (hown : s.vm.findClass "com/example/libpubid/libpubid/store/NamesIsNamePinLaw" = some m.cls) (hret : meth.sig.returnType = (some .boolean)) (hlk : meth.locks = false) (e0 : T0.heap = h0) (N0 : Fr n0 locs) (Z0 : n0 ≤ h0.size) (O : Old Z n0 h0) (SC : Sta Z Z.heap "java/lang/String" "COMPACT_STRINGS" "Z" (.int gC)) (hgC : ¬ gC = (0 : Int32)) (SU : US Z) (SF : Sta Z Z.heap "jdk/internal/util/Preconditions" "SIOOBE_FORMATTER" "Ljava/util/function/BiFunction;" gF) (rgF : gF.isRef = true) (hh0 : s.heap = h0) (hCH : CHv Z own_EL s.vm h0) :
    Go p e below (T0.setTop (mkF m 8 #[.val (.int sl), .val (.int mx), .val (.int xa), .val (.int xb), .val (.int xc), .val (.int xd), .val (.int (1 : Int32)), .unset, .unset, .unset, .unset, .unset, .unset] [])) (fun oo' U2' => ∃ vv' LL', oo' = .returned vv' ∧ (Q_rm0 Z sl mx xa xb xc xd gC gF h0 n0) vv' U2'.heap LL' ∧ CHr Z own_EL s.vm s.heap U2'.vm U2'.heap ∧ ReturnedEndW s oo' U2' LL' room_1.cells room_1.slots) := by
  have wd := @own_wd _ _ hw
  have X0 : Stand p l e room_1 (s.setVm s.vm) m args below meth c T0 locs 0 0 := X0
  have hS : s.Since s.vm 0 := (State.WarmedH.refl s).since 0
  have hEL := own_EW hw
  have HC0 := CHr.refl hCH
  refine go_of (B := (T0.setTop (mkF m 16 #[.val (.int sl), .val (.int mx), .val (.int xa), .val (.int xb), .val (.int xc), .val (.int xd), .val (.int (1 : Int32)), .val (.int (own_cc xa)), .unset, .unset, .unset, .unset, .unset] [(.int xb)]))) (fun _ kk => XS.iloadN X0.here hx rfl (hb hby at_8) rfl (X0.ldcInt hx hown (mvT hZ (wd 0 rfl)) (g := (mkF m 9 #[.val (.int sl), .val (.int mx), .val (.int xa), .val (.int xb), .val (.int xc), .val (.int xd), .val (.int (1 : Int32)), .unset, .unset, .unset, .unset, .unset, .unset] [(.int xa)])) rfl (hb hby at_9) _ (XS.iand X0.here hx rfl (hb hby at_11) rfl (XS.i2c X0.here hx rfl (hb hby at_12) rfl (XS.istore X0.here hx rfl (hb hby at_13) rfl rfl (XS.iloadN X0.here hx rfl (hb hby at_15) rfl kk)))))) ?_
  refine go_of (B := (T0.setTop (mkF m 26 #[.val (.int sl), .val (.int mx), .val (.int xa), .val (.int xb), .val (.int xc), .val (.int xd), .val (.int (1 : Int32)), .val (.int (own_cc xa)), .val (.int (own_cc xb)), .unset, .unset, .unset, .unset] [(.int (65535 : Int32)), (.int xc)]))) (fun _ kk => X0.ldcInt hx hown (mvT hZ (wd 0 rfl)) (g := (mkF m 16 #[.val (.int sl), .val (.int mx), .val (.int xa), .val (.int xb), .val (.int xc), .val (.int xd), .val (.int (1 : Int32)), .val (.int (own_cc xa)), .unset, .unset, .unset, .unset, .unset] [(.int xb)])) rfl (hb hby at_16) _ (XS.iand X0.here hx rfl (hb hby at_18) rfl (XS.i2c X0.here hx rfl (hb hby at_19) rfl (XS.istore X0.here hx rfl (hb hby at_20) rfl rfl (XS.iload X0.here hx rfl (hb hby at_22) rfl (X0.ldcInt hx hown (mvT hZ (wd 0 rfl)) (g := (mkF m 24 #[.val (.int sl), .val (.int mx), .val (.int xa), .val (.int xb), .val (.int xc), .val (.int xd), .val (.int (1 : Int32)), .val (.int (own_cc xa)), .val (.int (own_cc xb)), .unset, .unset, .unset, .unset] [(.int xc)])) rfl (hb hby at_24) _ kk)))))) ?_
  refine go_of (B := (T0.setTop (mkF m 35 #[.val (.int sl), .val (.int mx), .val (.int xa), .val (.int xb), .val (.int xc), .val (.int xd), .val (.int (1 : Int32)), .val (.int (own_cc xa)), .val (.int (own_cc xb)), .val (.int (own_cc xc)), .unset, .unset, .unset] [(.int (xd &&& (65535 : Int32)))]))) (fun _ kk => XS.iand X0.here hx rfl (hb hby at_26) rfl (XS.i2c X0.here hx rfl (hb hby at_27) rfl (XS.istore X0.here hx rfl (hb hby at_28) rfl rfl (XS.iload X0.here hx rfl (hb hby at_30) rfl (X0.ldcInt hx hown (mvT hZ (wd 0 rfl)) (g := (mkF m 32 #[.val (.int sl), .val (.int mx), .val (.int xa), .val (.int xb), .val (.int xc), .val (.int xd), .val (.int (1 : Int32)), .val (.int (own_cc xa)), .val (.int (own_cc xb)), .val (.int (own_cc xc)), .unset, .unset, .unset] [(.int xd)])) rfl (hb hby at_32) _ (XS.iand X0.here hx rfl (hb hby at_34) rfl kk)))))) ?_
  refine go_of (B := (T0.setTop (mkF m 38 #[.val (.int sl), .val (.int mx), .val (.int xa), .val (.int xb), .val (.int xc), .val (.int xd), .val (.int (1 : Int32)), .val (.int (own_cc xa)), .val (.int (own_cc xb)), .val (.int (own_cc xc)), .val (.int (own_cc xd)), .unset, .unset] []))) (fun _ kk => XS.i2c X0.here hx rfl (hb hby at_35) rfl (XS.istore X0.here hx rfl (hb hby at_36) rfl rfl kk)) ?_
  obtain ⟨T10, h10, X10, e10, E10, A10, D10, -, st10⟩ := newO X0 hx hZ hown (wd 1 rfl) (wd 2 rfl) (wd 3 rfl) e0 (g := (mkF m 38 #[.val (.int sl), .val (.int mx), .val (.int xa), .val (.int xb), .val (.int xc), .val (.int xd), .val (.int (1 : Int32)), .val (.int (own_cc xa)), .val (.int (own_cc xb)), .val (.int (own_cc xc)), .val (.int (own_cc xd)), .unset, .unset] [])) rfl (hb hby at_38) (by decide) (by decide)
  obtain ⟨b10, g10⟩ : ∃ z, z = h0.size := ⟨_, rfl⟩
  rw [← g10] at A10 D10 st10
  have hi10 := own_nlt A10.lt
  have sz10 := E10.1
  have HC10 := HC0.trans (CHr.ext E10 HC0.1)
  have F10_value : Fld Z h10 b10 "java/lang/String" "value" "[B" .null := D10 (Or.inr (wd 21 rfl)) (ty := (.array .byte)) (by decide)
  have F10_coder : Fld Z h10 b10 "java/lang/String" "coder" "B" (.int (0 : Int32)) := D10 (Or.inr (wd 22 rfl)) (ty := .byte) (by decide)
  refine go_of (B := (T10.setTop (mkF m 41 #[.val (.int sl), .val (.int mx), .val (.int xa), .val (.int xb), .val (.int xc), .val (.int xd), .val (.int (1 : Int32)), .val (.int (own_cc xa)), .val (.int (own_cc xb)), .val (.int (own_cc xc)), .val (.int (own_cc xd)), .unset, .unset] [(.ref b10)]))) (st10) ?_
  refine go_of (B := (T10.setTop (mkF m 52 #[.val (.int sl), .val (.int mx), .val (.int xa), .val (.int xb), .val (.int xc), .val (.int xd), .val (.int (1 : Int32)), .val (.int (own_cc xa)), .val (.int (own_cc xb)), .val (.int (own_cc xc)), .val (.int (own_cc xd)), .unset, .unset] [(.int (own_cc xd)), (.int (own_cc xc)), (.int (own_cc xb)), (.int (own_cc xa)), (.int (1 : Int32)), (.ref b10), (.ref b10)]))) (fun _ kk => XS.dup X10.here hx rfl (hb hby at_41) rfl rfl (XS.iload X10.here hx rfl (hb hby at_42) rfl (XS.iload X10.here hx rfl (hb hby at_44) rfl (XS.iload X10.here hx rfl (hb hby at_46) rfl (XS.iload X10.here hx rfl (hb hby at_48) rfl (XS.iload X10.here hx rfl (hb hby at_50) rfl kk)))))) ?_
  obtain ⟨_, _, ⟨T11, L11, k11, n11⟩, -, X11, ⟨Lc11, hQ11, l11, y11, z11⟩, st11⟩ := Jvm.LawKit.callS X10 hx (y := MN1) hown (mvT hZ (wd 4 rfl)) (mvT hZ (wd 5 rfl)) (mvT hZ (wd 6 rfl)) (mvT hZ (wd 7 rfl)) (by decide) (backOf (W := 2) (bu_1 l Z a0 hw [] (own_cc xa) (own_cc xb) (own_cc xc) (own_cc xd) h10 n0 (by first | omega | exact own_ne (by omega) | exact own_le (by omega) | exact own_lt (by omega)) (own_ccr xa) (own_ccr xb) (own_ccr xc) (own_ccr xd)) hZ (wd 7 rfl) (wd 6 rfl) (by decide) (by decide)) (g := (mkF m 52 #[.val (.int sl), .val (.int mx), .val (.int xa), .val (.int xb), .val (.int xc), .val (.int xd), .val (.int (1 : Int32)), .val (.int (own_cc xa)), .val (.int (own_cc xb)), .val (.int (own_cc xc)), .val (.int (own_cc xd)), .unset, .unset] [(.int (own_cc xd)), (.int (own_cc xc)), (.int (own_cc xb)), (.int (own_cc xa)), (.int (1 : Int32)), (.ref b10), (.ref b10)])) rfl (by rw [hml]; rfl) (argsL := [(.int (1 : Int32)), (.int (own_cc xa)), (.int (own_cc xb)), (.int (own_cc xc)), (.int (own_cc xd))]) (rest := [(.ref b10), (.ref b10)]) (lenOf pd__ICCCC__C rfl) rfl (by show 2 * 0 + _ ≤ _; exact Nat.le_of_eq rfl) (hb hby at_52) (fun _ _ => ⟨rfl, e10, (by decide : 1 + 1 ≤ _), (by decide : 4 + 1 ≤ _)⟩)
  dsimp only [Pt.U, Pt.locs, Pt.cells, Pt.slots] at X11 l11 y11 z11 st11 hQ11
  subst l11 y11 z11
  obtain ⟨b11, k11, rfl, N11q, lo11, K11, V11⟩ := hQ11
  have lo11 := own_nle lo11
  have N11 := Fr.app N0 N11q
  have hi11 := own_nlt (V11.lt)
  have sz11 := K11.1
  have SK11 : ∀ x ∈ ([] : List Addr), Safe Z own_EL s.vm h10 x := all0
  have HC11 := HC10.trans (CHr.keep K11 SK11 HC10.1)
  refine go_of (B := (T11.setTop (mkF m 55 #[.val (.int sl), .val (.int mx), .val (.int xa), .val (.int xb), .val (.int xc), .val (.int xd), .val (.int (1 : Int32)), .val (.int (own_cc xa)), .val (.int (own_cc xb)), .val (.int (own_cc xc)), .val (.int (own_cc xd)), .unset, .unset] [(.ref b11), (.ref b10), (.ref b10)]))) (st11) ?_
  have cf_12 := (A10.keep K11)
  have cf_13 := (F10_value.keep K11 nin0)
  have sf_14 := (own_safe_null hZ.alike cf_12 cf_13 : (Safe Z own_EL _ T11.heap b10))
  have cf_15 := ((O.ext E10).keep K11 all0)
  have cf_16 := (F10_coder.keep K11 nin0)
  obtain ⟨_, _, ⟨T17, L17, k17, n17⟩, -, X17, ⟨Lc17, hQ17, l17, y17, z17⟩, st17⟩ := X11.specialBack hx (y := MN3) rfl hown (mvT hZ (wd 9 rfl)) (mvT hZ (wd 10 rfl)) (mvT hZ (wd 11 rfl)) (by decide) (backOf (W := 1) (u_i1_1 l Z a0 hw [] b10 b11 (own_cc xa) k11 gC _ _ T11.heap n0 (by first | omega | exact own_ne (by omega) | exact own_le (by omega) | exact own_lt (by omega)) cf_15 SC hgC SU cf_12 cf_13 cf_16 (by first | omega | exact own_ne (by omega) | exact own_le (by omega) | exact own_lt (by omega)) V11 (own_ccr xa)) hZ (wd 11 rfl) (wd 3 rfl) (by decide) (by decide)) (g := (mkF m 55 #[.val (.int sl), .val (.int mx), .val (.int xa), .val (.int xb), .val (.int xc), .val (.int xd), .val (.int (1 : Int32)), .val (.int (own_cc xa)), .val (.int (own_cc xb)), .val (.int (own_cc xc)), .val (.int (own_cc xd)), .unset, .unset] [(.ref b11), (.ref b10), (.ref b10)])) rfl (by rw [hml]; rfl) (Steps.refl _) (a := b10) (argsL := [(.ref b11)]) (rest := [(.ref b10)]) (lenOf pd___C_V rfl) rfl (by show 2 * 0 + _ ≤ _; exact Nat.le_of_eq rfl) (hb hby at_55) (fun _ _ => ⟨rfl, rfl, (by decide : 2 + 2 ≤ _), (by decide : 5 + 3 ≤ _)⟩)
  dsimp only [Pt.U, Pt.locs, Pt.cells, Pt.slots] at X17 l17 y17 z17 st17 hQ17
  subst l17 y17 z17
  obtain ⟨rfl, N17q, K17, S17⟩ := hQ17
  have N17 := Fr.app N11 N17q
  have sz17 := K17.1
  have SK17 : ∀ x ∈ [b10], Safe Z own_EL _ T11.heap x := (allS sf_14 all0)
  have HC17 := HC11.trans (CHr.keep K17 SK17 HC11.1)
  refine go_tr (B := (T17.setTop (mkF m 58 #[.val (.int sl), .val (.int mx), .val (.int xa), .val (.int xb), .val (.int xc), .val (.int xd), .val (.int (1 : Int32)), .val (.int (own_cc xa)), .val (.int (own_cc xb)), .val (.int (own_cc xc)), .val (.int (own_cc xd)), .unset, .unset] [(.ref b10)]))) (st17) ?_
  refine go_of (B := (T17.setTop (mkF m 60 #[.val (.int sl), .val (.int mx), .val (.int xa), .val (.int xb), .val (.int xc), .val (.int xd), .val (.int (1 : Int32)), .val (.int (own_cc xa)), .val (.int (own_cc xb)), .val (.int (own_cc xc)), .val (.int (own_cc xd)), .val (.ref b10), .unset] []))) (fun _ kk => XS.astore X17.here hx rfl (hb hby at_58) rfl rfl rfl kk) ?_
  have HJ18 : ∀ (Tj18 : State) (Lj18 : List Loc), Stand p l e room_1 (s.setVm s.vm) m args below meth c Tj18 Lj18 4 8 → Tj18.heap = T17.heap → Fr n0 Lj18 → ∀ (xe : Int32), xe = own_nm 1 mx [(own_cc xa)] → Go p e below (Tj18.setTop (mkF m 135 #[.val (.int sl), .val (.int mx), .val (.int xa), .val (.int xb), .val (.int xc), .val (.int xd), .val (.int (1 : Int32)), .val (.int (own_cc xa)), .val (.int (own_cc xb)), .val (.int (own_cc xc)), .val (.int (own_cc xd)), .val (.ref b10), .val (.int xe)] [])) (fun oo' U2' => ∃ vv' LL', oo' = .returned vv' ∧ (Q_rm0 Z sl mx xa xb xc xd gC gF h0 n0) vv' U2'.heap LL' ∧ CHr Z own_EL s.vm s.heap U2'.vm U2'.heap ∧ ReturnedEndW s oo' U2' LL' room_1.cells room_1.slots) := by
    intro Tj18 Lj18 Xj18 ej18 Nj18 xe hjHJ18
    refine go_of (B := (Tj18.setTop (mkF m 138 #[.val (.int sl), .val (.int mx), .val (.int xa), .val (.int xb), .val (.int xc), .val (.int xd), .val (.int (1 : Int32)), .val (.int (own_cc xa)), .val (.int (own_cc xb)), .val (.int (own_cc xc)), .val (.int (own_cc xd)), .val (.ref b10), .val (.int xe)] [(.int mx), (.ref b10)]))) (fun _ kk => XS.aload Xj18.here hx rfl (hb hby at_135) rfl rfl (XS.iloadN Xj18.here hx rfl (hb hby at_137) rfl kk)) ?_
    have cf_19 := (cf_15.keep K17 (allS (by first | omega | exact own_ne (by omega) | exact own_le (by omega) | exact own_lt (by omega)) all0))
    obtain ⟨_, _, ⟨T20, L20, k20, n20⟩, -, X20, ⟨Lc20, hQ20, l20, y20, z20⟩, st20⟩ := Jvm.LawKit.callS Xj18 hx (y := MN0) hown (mvT hZ (wd 27 rfl)) (mvT hZ (wd 28 rfl)) (mvT hZ (wd 29 rfl)) (mvT hZ (wd 30 rfl)) (by decide) (backOf (W := 0) (nam_1 l Z a0 hw [] b10 mx (own_cc xa) gC gF T17.heap n0 (by first | omega | exact own_ne (by omega) | exact own_le (by omega) | exact own_lt (by omega)) cf_19 SC hgC S17 SU SF rgF) hZ (wd 30 rfl) (wd 29 rfl) (by decide) (by decide)) (g := (mkF m 138 #[.val (.int sl), .val (.int mx), .val (.int xa), .val (.int xb), .val (.int xc), .val (.int xd), .val (.int (1 : Int32)), .val (.int (own_cc xa)), .val (.int (own_cc xb)), .val (.int (own_cc xc)), .val (.int (own_cc xd)), .val (.ref b10), .val (.int xe)] [(.int mx), (.ref b10)])) rfl (by rw [hml]; rfl) (argsL := [(.ref b10), (.int mx)]) (rest := []) (lenOf pd__Ljava_lang_String_I_Z rfl) rfl (by show 2 * 0 + _ ≤ _; exact Nat.le_of_eq rfl) (hb hby at_138) (fun _ _ => ⟨rfl, ej18, (by decide : 4 + 0 ≤ _), (by decide : 8 + 0 ≤ _)⟩)
    dsimp only [Pt.U, Pt.locs, Pt.cells, Pt.slots] at X20 l20 y20 z20 st20 hQ20
    subst l20 y20 z20
    obtain ⟨rfl, N20q, e20⟩ := hQ20
    have N20 := Fr.app Nj18 N20q
    refine go_of (B := (T20.setTop (mkF m 141 #[.val (.int sl), .val (.int mx), .val (.int xa), .val (.int xb), .val (.int xc), .val (.int xd), .val (.int (1 : Int32)), .val (.int (own_cc xa)), .val (.int (own_cc xb)), .val (.int (own_cc xc)), .val (.int (own_cc xd)), .val (.ref b10), .val (.int xe)] [(.int (own_nm 1 mx [(own_cc xa)]))]))) (st20) ?_
    refine go_of (B := (T20.setTop (mkF m 151 #[.val (.int sl), .val (.int mx), .val (.int xa), .val (.int xb), .val (.int xc), .val (.int xd), .val (.int (1 : Int32)), .val (.int (own_cc xa)), .val (.int (own_cc xb)), .val (.int (own_cc xc)), .val (.int (own_cc xd)), .val (.ref b10), .val (.int xe)] [(.int (1 : Int32))]))) (fun _ kk => XS.iload X20.here hx rfl (hb hby at_141) rfl (XS.icmpNo X20.here hx rfl (hb hby at_143) rfl (teq hjHJ18.symm).2 (XS.iconst X20.here hx rfl (hb hby at_146) (XS.goto X20.here hx rfl (pc0 := 147) (pc' := 151) rfl (hb hby at_147) (by decide) (by decide) kk)))) ?_
    refine go_endH X20 hZ hEL HC17 hh0 e20 hS (by rw [e20]; omega) (v := some (.int (nar .boolean (1 : Int32)))) (fun h => by rw [hret] at h; cases h) hlk (by decide) (by decide) (Q := (Q_rm0 Z sl mx xa xb xc xd gC gF h0 n0)) ?_ (fun fs hr => retN X20 hx (t := .boolean) hret (by simp) (hb hby at_151) hr)
    unfold Q_rm0
    try rw [e20]
    exact ⟨rfl, N20⟩
  refine go_of (B := (T17.setTop (mkF m 69 #[.val (.int sl), .val (.int mx), .val (.int xa), .val (.int xb), .val (.int xc), .val (.int xd), .val (.int (1 : Int32)), .val (.int (own_cc xa)), .val (.int (own_cc xb)), .val (.int (own_cc xc)), .val (.int (own_cc xd)), .val (.ref b10), .unset] [(.int mx), (.int (1 : Int32))]))) (fun _ kk => XS.iload X17.here hx rfl (hb hby at_60) rfl (XS.iconst X17.here hx rfl (hb hby at_62) (XS.icmpNo X17.here hx rfl (hb hby at_63) rfl (flt (by decide : ¬ ((1 : Int32) < (1 : Int32)))).1 (XS.iload X17.here hx rfl (hb hby at_66) rfl (XS.iloadN X17.here hx rfl (hb hby at_68) rfl kk))))) ?_
  by_cases hcc21 : mx < (1 : Int32)
  · refine go_of (B := (T17.setTop (mkF m 135 #[.val (.int sl), .val (.int mx), .val (.int xa), .val (.int xb), .val (.int xc), .val (.int xd), .val (.int (1 : Int32)), .val (.int (own_cc xa)), .val (.int (own_cc xb)), .val (.int (own_cc xc)), .val (.int (own_cc xd)), .val (.ref b10), .val (.int (0 : Int32))] []))) (fun _ kk => XS.icmpYes X17.here hx rfl (pc0 := 69) (pc' := 132) rfl (hb hby at_69) rfl (tlt hcc21).2.2.1 (by decide) (by decide) (XS.iconst X17.here hx rfl (hb hby at_132) (XS.istore X17.here hx rfl (hb hby at_133) rfl rfl kk))) ?_
    exact HJ18 _ _ X17 rfl N17 (0 : Int32) (by simp [own_nm, hcc21])
  · refine go_of (B := (T17.setTop (mkF m 80 #[.val (.int sl), .val (.int mx), .val (.int xa), .val (.int xb), .val (.int xc), .val (.int xd), .val (.int (1 : Int32)), .val (.int (own_cc xa)), .val (.int (own_cc xb)), .val (.int (own_cc xc)), .val (.int (own_cc xd)), .val (.ref b10), .unset] [(.int (own_cc xa))]))) (fun _ kk => XS.icmpNo X17.here hx rfl (hb hby at_69) rfl (flt hcc21).2.2.1 (XS.iload X17.here hx rfl (hb hby at_72) rfl (XS.iconst X17.here hx rfl (hb hby at_74) (XS.icmpNo X17.here hx rfl (hb hby at_75) rfl (flt (by decide : ¬ ((1 : Int32) < (1 : Int32)))).1 (XS.iload X17.here hx rfl (hb hby at_78) rfl kk))))) ?_
    obtain ⟨_, _, ⟨T22, L22, k22, n22⟩, -, X22, ⟨Lc22, hQ22, l22, y22, z22⟩, st22⟩ := Jvm.LawKit.callS X17 hx (y := MN2) hown (mvT hZ (wd 47 rfl)) (mvT hZ (wd 48 rfl)) (mvT hZ (wd 6 rfl)) (mvT hZ (wd 49 rfl)) (by decide) (backOf (W := 0) (okc l Z a0 hw [] (own_cc xa) T17.heap n0 (by first | omega | exact own_ne (by omega) | exact own_le (by omega) | exact own_lt (by omega))) hZ (wd 49 rfl) (wd 6 rfl) (by decide) (by decide)) (g := (mkF m 80 #[.val (.int sl), .val (.int mx), .val (.int xa), .val (.int xb), .val (.int xc), .val (.int xd), .val (.int (1 : Int32)), .val (.int (own_cc xa)), .val (.int (own_cc xb)), .val (.int (own_cc xc)), .val (.int (own_cc xd)), .val (.ref b10), .unset] [(.int (own_cc xa))])) rfl (by rw [hml]; rfl) (argsL := [(.int (own_cc xa))]) (rest := []) (lenOf pd__C_Z rfl) rfl (by show 2 * 0 + _ ≤ _; exact Nat.le_of_eq rfl) (hb hby at_80) (fun _ _ => ⟨rfl, rfl, (by decide : 4 + 0 ≤ _), (by decide : 8 + 0 ≤ _)⟩)
    dsimp only [Pt.U, Pt.locs, Pt.cells, Pt.slots] at X22 l22 y22 z22 st22 hQ22
    subst l22 y22 z22
    obtain ⟨rfl, N22q, e22⟩ := hQ22
    have N22 := Fr.app N17 N22q
    refine go_of (B := (T22.setTop (mkF m 83 #[.val (.int sl), .val (.int mx), .val (.int xa), .val (.int xb), .val (.int xc), .val (.int xd), .val (.int (1 : Int32)), .val (.int (own_cc xa)), .val (.int (own_cc xb)), .val (.int (own_cc xc)), .val (.int (own_cc xd)), .val (.ref b10), .unset] [(.int (own_oki (own_cc xa)))]))) (st22) ?_
    by_cases hcc23 : (own_oki (own_cc xa)) = (0 : Int32)
    · refine go_of (B := (T22.setTop (mkF m 135 #[.val (.int sl), .val (.int mx), .val (.int xa), .val (.int xb), .val (.int xc), .val (.int xd), .val (.int (1 : Int32)), .val (.int (own_cc xa)), .val (.int (own_cc xb)), .val (.int (own_cc xc)), .val (.int (own_cc xd)), .val (.ref b10), .val (.int (0 : Int32))] []))) (fun _ kk => XS.ifYes X22.here hx rfl (pc0 := 83) (pc' := 132) rfl (hb hby at_83) rfl ((if0 _ _).trans (teq hcc23).1) (by decide) (by decide) (XS.iconst X22.here hx rfl (hb hby at_132) (XS.istore X22.here hx rfl (hb hby at_133) rfl rfl kk))) ?_
      exact HJ18 _ _ X22 e22 N22 (0 : Int32) (by rw [own_okk] at hcc23; simp [own_nm, hcc21, hcc23])
    · refine go_of (B := (T22.setTop (mkF m 103 #[.val (.int sl), .val (.int mx), .val (.int xa), .val (.int xb), .val (.int xc), .val (.int xd), .val (.int (1 : Int32)), .val (.int (own_cc xa)), .val (.int (own_cc xb)), .val (.int (own_cc xc)), .val (.int (own_cc xd)), .val (.ref b10), .unset] [(.int (3 : Int32)), (.int (1 : Int32))]))) (fun _ kk => XS.ifNo X22.here hx rfl (hb hby at_83) rfl ((if0 _ _).trans (feq hcc23).1) (XS.iload X22.here hx rfl (hb hby at_86) rfl (XS.iconst X22.here hx rfl (hb hby at_88) (XS.icmpYes X22.here hx rfl (pc0 := 89) (pc' := 100) rfl (hb hby at_89) rfl (tlt (by decide : (1 : Int32) < (2 : Int32))).1 (by decide) (by decide) (XS.iload X22.here hx rfl (hb hby at_100) rfl (XS.iconst X22.here hx rfl (hb hby at_102) kk)))))) ?_
      refine go_of (B := (T22.setTop (mkF m 133 #[.val (.int sl), .val (.int mx), .val (.int xa), .val (.int xb), .val (.int xc), .val (.int xd), .val (.int (1 : Int32)), .val (.int (own_cc xa)), .val (.int (own_cc xb)), .val (.int (own_cc xc)), .val (.int (own_cc xd)), .val (.ref b10), .unset] [(.int (1 : Int32))]))) (fun _ kk => XS.icmpYes X22.here hx rfl (pc0 := 103) (pc' := 114) rfl (hb hby at_103) rfl (tlt (by decide : (1 : Int32) < (3 : Int32))).1 (by decide) (by decide) (XS.iload X22.here hx rfl (hb hby at_114) rfl (XS.iconst X22.here hx rfl (hb hby at_116) (XS.icmpYes X22.here hx rfl (pc0 := 117) (pc' := 128) rfl (hb hby at_117) rfl (tlt (by decide : (1 : Int32) < (4 : Int32))).1 (by decide) (by decide) (XS.iconst X22.here hx rfl (hb hby at_128) (XS.goto X22.here hx rfl (pc0 := 129) (pc' := 133) rfl (hb hby at_129) (by decide) (by decide) kk)))))) ?_
      refine go_of (B := (T22.setTop (mkF m 135 #[.val (.int sl), .val (.int mx), .val (.int xa), .val (.int xb), .val (.int xc), .val (.int xd), .val (.int (1 : Int32)), .val (.int (own_cc xa)), .val (.int (own_cc xb)), .val (.int (own_cc xc)), .val (.int (own_cc xd)), .val (.ref b10), .val (.int (1 : Int32))] []))) (fun _ kk => XS.istore X22.here hx rfl (hb hby at_133) rfl rfl kk) ?_
      exact HJ18 _ _ X22 e22 N22 (1 : Int32) (by rw [own_okk] at hcc23; simp [own_nm, hcc21, hcc23])
theorem lw2 {p : Program} {l : Launch} {e : Env} {s : State} {m : MethodId} {args : Array Value} {below : List Frame} {meth : Method} {c : Code} {Z : State} {a0 : Array Value} {h0 : Heap} {n0 : Nat} (sl : Int32) (mx : Int32) (xa : Int32) (xb : Int32) (xc : Int32) (xd : Int32) (gC : Int32) (gF : Value) {T0 : State} {locs : List Loc}
    (X0 : Stand p l e room_1 s m args below meth c T0 locs 0 0) (hx : p.tables.exec = Jvm.exec) (hZ : Z.Warmed39 s.vm) (hw : TW a0 Z) (hby : c.code = code) (hml : c.maxLocals = 13) (hown : s.vm.findClass "com/example/libpubid/libpubid/store/NamesIsNamePinLaw" = some m.cls) (hret : meth.sig.returnType = (some .boolean)) (hlk : meth.locks = false) (e0 : T0.heap = h0) (N0 : Fr n0 locs) (Z0 : n0 ≤ h0.size) (O : Old Z n0 h0) (SC : Sta Z Z.heap "java/lang/String" "COMPACT_STRINGS" "Z" (.int gC)) (hgC : ¬ gC = (0 : Int32)) (SU : US Z) (SF : Sta Z Z.heap "jdk/internal/util/Preconditions" "SIOOBE_FORMATTER" "Ljava/util/function/BiFunction;" gF) (rgF : gF.isRef = true) (hh0 : s.heap = h0) (hCH : CHv Z own_EL s.vm h0) :
    Go p e below (T0.setTop (mkF m 8 #[.val (.int sl), .val (.int mx), .val (.int xa), .val (.int xb), .val (.int xc), .val (.int xd), .val (.int (2 : Int32)), .unset, .unset, .unset, .unset, .unset, .unset] [])) (fun oo' U2' => ∃ vv' LL', oo' = .returned vv' ∧ (Q_rm0 Z sl mx xa xb xc xd gC gF h0 n0) vv' U2'.heap LL' ∧ CHr Z own_EL s.vm s.heap U2'.vm U2'.heap ∧ ReturnedEndW s oo' U2' LL' room_1.cells room_1.slots) := by
  have wd := @own_wd _ _ hw
  have X0 : Stand p l e room_1 (s.setVm s.vm) m args below meth c T0 locs 0 0 := X0
  have hS : s.Since s.vm 0 := (State.WarmedH.refl s).since 0
  have hEL := own_EW hw
  have HC0 := CHr.refl hCH
  refine go_of (B := (T0.setTop (mkF m 16 #[.val (.int sl), .val (.int mx), .val (.int xa), .val (.int xb), .val (.int xc), .val (.int xd), .val (.int (2 : Int32)), .val (.int (own_cc xa)), .unset, .unset, .unset, .unset, .unset] [(.int xb)]))) (fun _ kk => XS.iloadN X0.here hx rfl (hb hby at_8) rfl (X0.ldcInt hx hown (mvT hZ (wd 0 rfl)) (g := (mkF m 9 #[.val (.int sl), .val (.int mx), .val (.int xa), .val (.int xb), .val (.int xc), .val (.int xd), .val (.int (2 : Int32)), .unset, .unset, .unset, .unset, .unset, .unset] [(.int xa)])) rfl (hb hby at_9) _ (XS.iand X0.here hx rfl (hb hby at_11) rfl (XS.i2c X0.here hx rfl (hb hby at_12) rfl (XS.istore X0.here hx rfl (hb hby at_13) rfl rfl (XS.iloadN X0.here hx rfl (hb hby at_15) rfl kk)))))) ?_
  refine go_of (B := (T0.setTop (mkF m 26 #[.val (.int sl), .val (.int mx), .val (.int xa), .val (.int xb), .val (.int xc), .val (.int xd), .val (.int (2 : Int32)), .val (.int (own_cc xa)), .val (.int (own_cc xb)), .unset, .unset, .unset, .unset] [(.int (65535 : Int32)), (.int xc)]))) (fun _ kk => X0.ldcInt hx hown (mvT hZ (wd 0 rfl)) (g := (mkF m 16 #[.val (.int sl), .val (.int mx), .val (.int xa), .val (.int xb), .val (.int xc), .val (.int xd), .val (.int (2 : Int32)), .val (.int (own_cc xa)), .unset, .unset, .unset, .unset, .unset] [(.int xb)])) rfl (hb hby at_16) _ (XS.iand X0.here hx rfl (hb hby at_18) rfl (XS.i2c X0.here hx rfl (hb hby at_19) rfl (XS.istore X0.here hx rfl (hb hby at_20) rfl rfl (XS.iload X0.here hx rfl (hb hby at_22) rfl (X0.ldcInt hx hown (mvT hZ (wd 0 rfl)) (g := (mkF m 24 #[.val (.int sl), .val (.int mx), .val (.int xa), .val (.int xb), .val (.int xc), .val (.int xd), .val (.int (2 : Int32)), .val (.int (own_cc xa)), .val (.int (own_cc xb)), .unset, .unset, .unset, .unset] [(.int xc)])) rfl (hb hby at_24) _ kk)))))) ?_
  refine go_of (B := (T0.setTop (mkF m 35 #[.val (.int sl), .val (.int mx), .val (.int xa), .val (.int xb), .val (.int xc), .val (.int xd), .val (.int (2 : Int32)), .val (.int (own_cc xa)), .val (.int (own_cc xb)), .val (.int (own_cc xc)), .unset, .unset, .unset] [(.int (xd &&& (65535 : Int32)))]))) (fun _ kk => XS.iand X0.here hx rfl (hb hby at_26) rfl (XS.i2c X0.here hx rfl (hb hby at_27) rfl (XS.istore X0.here hx rfl (hb hby at_28) rfl rfl (XS.iload X0.here hx rfl (hb hby at_30) rfl (X0.ldcInt hx hown (mvT hZ (wd 0 rfl)) (g := (mkF m 32 #[.val (.int sl), .val (.int mx), .val (.int xa), .val (.int xb), .val (.int xc), .val (.int xd), .val (.int (2 : Int32)), .val (.int (own_cc xa)), .val (.int (own_cc xb)), .val (.int (own_cc xc)), .unset, .unset, .unset] [(.int xd)])) rfl (hb hby at_32) _ (XS.iand X0.here hx rfl (hb hby at_34) rfl kk)))))) ?_
  refine go_of (B := (T0.setTop (mkF m 38 #[.val (.int sl), .val (.int mx), .val (.int xa), .val (.int xb), .val (.int xc), .val (.int xd), .val (.int (2 : Int32)), .val (.int (own_cc xa)), .val (.int (own_cc xb)), .val (.int (own_cc xc)), .val (.int (own_cc xd)), .unset, .unset] []))) (fun _ kk => XS.i2c X0.here hx rfl (hb hby at_35) rfl (XS.istore X0.here hx rfl (hb hby at_36) rfl rfl kk)) ?_
  obtain ⟨T24, h24, X24, e24, E24, A24, D24, -, st24⟩ := newO X0 hx hZ hown (wd 1 rfl) (wd 2 rfl) (wd 3 rfl) e0 (g := (mkF m 38 #[.val (.int sl), .val (.int mx), .val (.int xa), .val (.int xb), .val (.int xc), .val (.int xd), .val (.int (2 : Int32)), .val (.int (own_cc xa)), .val (.int (own_cc xb)), .val (.int (own_cc xc)), .val (.int (own_cc xd)), .unset, .unset] [])) rfl (hb hby at_38) (by decide) (by decide)
  obtain ⟨b24, g24⟩ : ∃ z, z = h0.size := ⟨_, rfl⟩
  rw [← g24] at A24 D24 st24
  have hi24 := own_nlt A24.lt
  have sz24 := E24.1
  have HC24 := HC0.trans (CHr.ext E24 HC0.1)
  have F24_value : Fld Z h24 b24 "java/lang/String" "value" "[B" .null := D24 (Or.inr (wd 21 rfl)) (ty := (.array .byte)) (by decide)
  have F24_coder : Fld Z h24 b24 "java/lang/String" "coder" "B" (.int (0 : Int32)) := D24 (Or.inr (wd 22 rfl)) (ty := .byte) (by decide)
  refine go_of (B := (T24.setTop (mkF m 41 #[.val (.int sl), .val (.int mx), .val (.int xa), .val (.int xb), .val (.int xc), .val (.int xd), .val (.int (2 : Int32)), .val (.int (own_cc xa)), .val (.int (own_cc xb)), .val (.int (own_cc xc)), .val (.int (own_cc xd)), .unset, .unset] [(.ref b24)]))) (st24) ?_
  refine go_of (B := (T24.setTop (mkF m 52 #[.val (.int sl), .val (.int mx), .val (.int xa), .val (.int xb), .val (.int xc), .val (.int xd), .val (.int (2 : Int32)), .val (.int (own_cc xa)), .val (.int (own_cc xb)), .val (.int (own_cc xc)), .val (.int (own_cc xd)), .unset, .unset] [(.int (own_cc xd)), (.int (own_cc xc)), (.int (own_cc xb)), (.int (own_cc xa)), (.int (2 : Int32)), (.ref b24), (.ref b24)]))) (fun _ kk => XS.dup X24.here hx rfl (hb hby at_41) rfl rfl (XS.iload X24.here hx rfl (hb hby at_42) rfl (XS.iload X24.here hx rfl (hb hby at_44) rfl (XS.iload X24.here hx rfl (hb hby at_46) rfl (XS.iload X24.here hx rfl (hb hby at_48) rfl (XS.iload X24.here hx rfl (hb hby at_50) rfl kk)))))) ?_
  obtain ⟨_, _, ⟨T25, L25, k25, n25⟩, -, X25, ⟨Lc25, hQ25, l25, y25, z25⟩, st25⟩ := Jvm.LawKit.callS X24 hx (y := MN1) hown (mvT hZ (wd 4 rfl)) (mvT hZ (wd 5 rfl)) (mvT hZ (wd 6 rfl)) (mvT hZ (wd 7 rfl)) (by decide) (backOf (W := 2) (bu_2 l Z a0 hw [] (own_cc xa) (own_cc xb) (own_cc xc) (own_cc xd) h24 n0 (by first | omega | exact own_ne (by omega) | exact own_le (by omega) | exact own_lt (by omega)) (own_ccr xa) (own_ccr xb) (own_ccr xc) (own_ccr xd)) hZ (wd 7 rfl) (wd 6 rfl) (by decide) (by decide)) (g := (mkF m 52 #[.val (.int sl), .val (.int mx), .val (.int xa), .val (.int xb), .val (.int xc), .val (.int xd), .val (.int (2 : Int32)), .val (.int (own_cc xa)), .val (.int (own_cc xb)), .val (.int (own_cc xc)), .val (.int (own_cc xd)), .unset, .unset] [(.int (own_cc xd)), (.int (own_cc xc)), (.int (own_cc xb)), (.int (own_cc xa)), (.int (2 : Int32)), (.ref b24), (.ref b24)])) rfl (by rw [hml]; rfl) (argsL := [(.int (2 : Int32)), (.int (own_cc xa)), (.int (own_cc xb)), (.int (own_cc xc)), (.int (own_cc xd))]) (rest := [(.ref b24), (.ref b24)]) (lenOf pd__ICCCC__C rfl) rfl (by show 2 * 0 + _ ≤ _; exact Nat.le_of_eq rfl) (hb hby at_52) (fun _ _ => ⟨rfl, e24, (by decide : 1 + 1 ≤ _), (by decide : 4 + 2 ≤ _)⟩)
  dsimp only [Pt.U, Pt.locs, Pt.cells, Pt.slots] at X25 l25 y25 z25 st25 hQ25
  subst l25 y25 z25
  obtain ⟨b25, k25, rfl, N25q, lo25, K25, V25⟩ := hQ25
  have lo25 := own_nle lo25
  have N25 := Fr.app N0 N25q
  have hi25 := own_nlt (V25.lt)
  have sz25 := K25.1
  have SK25 : ∀ x ∈ ([] : List Addr), Safe Z own_EL s.vm h24 x := all0
  have HC25 := HC24.trans (CHr.keep K25 SK25 HC24.1)
  refine go_of (B := (T25.setTop (mkF m 55 #[.val (.int sl), .val (.int mx), .val (.int xa), .val (.int xb), .val (.int xc), .val (.int xd), .val (.int (2 : Int32)), .val (.int (own_cc xa)), .val (.int (own_cc xb)), .val (.int (own_cc xc)), .val (.int (own_cc xd)), .unset, .unset] [(.ref b25), (.ref b24), (.ref b24)]))) (st25) ?_
  have cf_26 := (A24.keep K25)
  have cf_27 := (F24_value.keep K25 nin0)
  have sf_28 := (own_safe_null hZ.alike cf_26 cf_27 : (Safe Z own_EL _ T25.heap b24))
  have cf_29 := ((O.ext E24).keep K25 all0)
  have cf_30 := (F24_coder.keep K25 nin0)
  obtain ⟨_, _, ⟨T31, L31, k31, n31⟩, -, X31, ⟨Lc31, hQ31, l31, y31, z31⟩, st31⟩ := X25.specialBack hx (y := MN3) rfl hown (mvT hZ (wd 9 rfl)) (mvT hZ (wd 10 rfl)) (mvT hZ (wd 11 rfl)) (by decide) (backOf (W := 1) (u_i1_2 l Z a0 hw [] b24 b25 (own_cc xa) (own_cc xb) k25 gC _ _ T25.heap n0 (by first | omega | exact own_ne (by omega) | exact own_le (by omega) | exact own_lt (by omega)) cf_29 SC hgC SU cf_26 cf_27 cf_30 (by first | omega | exact own_ne (by omega) | exact own_le (by omega) | exact own_lt (by omega)) V25 (own_ccr xa) (own_ccr xb)) hZ (wd 11 rfl) (wd 3 rfl) (by decide) (by decide)) (g := (mkF m 55 #[.val (.int sl), .val (.int mx), .val (.int xa), .val (.int xb), .val (.int xc), .val (.int xd), .val (.int (2 : Int32)), .val (.int (own_cc xa)), .val (.int (own_cc xb)), .val (.int (own_cc xc)), .val (.int (own_cc xd)), .unset, .unset] [(.ref b25), (.ref b24), (.ref b24)])) rfl (by rw [hml]; rfl) (Steps.refl _) (a := b24) (argsL := [(.ref b25)]) (rest := [(.ref b24)]) (lenOf pd___C_V rfl) rfl (by show 2 * 0 + _ ≤ _; exact Nat.le_of_eq rfl) (hb hby at_55) (fun _ _ => ⟨rfl, rfl, (by decide : 2 + 2 ≤ _), (by decide : 6 + 6 ≤ _)⟩)
  dsimp only [Pt.U, Pt.locs, Pt.cells, Pt.slots] at X31 l31 y31 z31 st31 hQ31
  subst l31 y31 z31
  obtain ⟨rfl, N31q, K31, S31⟩ := hQ31
  have N31 := Fr.app N25 N31q
  have sz31 := K31.1
  have SK31 : ∀ x ∈ [b24], Safe Z own_EL _ T25.heap x := (allS sf_28 all0)
  have HC31 := HC25.trans (CHr.keep K31 SK31 HC25.1)
  refine go_tr (B := (T31.setTop (mkF m 58 #[.val (.int sl), .val (.int mx), .val (.int xa), .val (.int xb), .val (.int xc), .val (.int xd), .val (.int (2 : Int32)), .val (.int (own_cc xa)), .val (.int (own_cc xb)), .val (.int (own_cc xc)), .val (.int (own_cc xd)), .unset, .unset] [(.ref b24)]))) (st31) ?_
  refine go_of (B := (T31.setTop (mkF m 60 #[.val (.int sl), .val (.int mx), .val (.int xa), .val (.int xb), .val (.int xc), .val (.int xd), .val (.int (2 : Int32)), .val (.int (own_cc xa)), .val (.int (own_cc xb)), .val (.int (own_cc xc)), .val (.int (own_cc xd)), .val (.ref b24), .unset] []))) (fun _ kk => XS.astore X31.here hx rfl (hb hby at_58) rfl rfl rfl kk) ?_
  have HJ32 : ∀ (Tj32 : State) (Lj32 : List Loc), Stand p l e room_1 (s.setVm s.vm) m args below meth c Tj32 Lj32 4 12 → Tj32.heap = T31.heap → Fr n0 Lj32 → ∀ (xe : Int32), xe = own_nm 2 mx [(own_cc xa), (own_cc xb)] → Go p e below (Tj32.setTop (mkF m 135 #[.val (.int sl), .val (.int mx), .val (.int xa), .val (.int xb), .val (.int xc), .val (.int xd), .val (.int (2 : Int32)), .val (.int (own_cc xa)), .val (.int (own_cc xb)), .val (.int (own_cc xc)), .val (.int (own_cc xd)), .val (.ref b24), .val (.int xe)] [])) (fun oo' U2' => ∃ vv' LL', oo' = .returned vv' ∧ (Q_rm0 Z sl mx xa xb xc xd gC gF h0 n0) vv' U2'.heap LL' ∧ CHr Z own_EL s.vm s.heap U2'.vm U2'.heap ∧ ReturnedEndW s oo' U2' LL' room_1.cells room_1.slots) := by
    intro Tj32 Lj32 Xj32 ej32 Nj32 xe hjHJ32
    refine go_of (B := (Tj32.setTop (mkF m 138 #[.val (.int sl), .val (.int mx), .val (.int xa), .val (.int xb), .val (.int xc), .val (.int xd), .val (.int (2 : Int32)), .val (.int (own_cc xa)), .val (.int (own_cc xb)), .val (.int (own_cc xc)), .val (.int (own_cc xd)), .val (.ref b24), .val (.int xe)] [(.int mx), (.ref b24)]))) (fun _ kk => XS.aload Xj32.here hx rfl (hb hby at_135) rfl rfl (XS.iloadN Xj32.here hx rfl (hb hby at_137) rfl kk)) ?_
    have cf_33 := (cf_29.keep K31 (allS (by first | omega | exact own_ne (by omega) | exact own_le (by omega) | exact own_lt (by omega)) all0))
    obtain ⟨_, _, ⟨T34, L34, k34, n34⟩, -, X34, ⟨Lc34, hQ34, l34, y34, z34⟩, st34⟩ := Jvm.LawKit.callS Xj32 hx (y := MN0) hown (mvT hZ (wd 27 rfl)) (mvT hZ (wd 28 rfl)) (mvT hZ (wd 29 rfl)) (mvT hZ (wd 30 rfl)) (by decide) (backOf (W := 0) (nam_2 l Z a0 hw [] b24 mx (own_cc xa) (own_cc xb) gC gF T31.heap n0 (by first | omega | exact own_ne (by omega) | exact own_le (by omega) | exact own_lt (by omega)) cf_33 SC hgC S31 SU SF rgF) hZ (wd 30 rfl) (wd 29 rfl) (by decide) (by decide)) (g := (mkF m 138 #[.val (.int sl), .val (.int mx), .val (.int xa), .val (.int xb), .val (.int xc), .val (.int xd), .val (.int (2 : Int32)), .val (.int (own_cc xa)), .val (.int (own_cc xb)), .val (.int (own_cc xc)), .val (.int (own_cc xd)), .val (.ref b24), .val (.int xe)] [(.int mx), (.ref b24)])) rfl (by rw [hml]; rfl) (argsL := [(.ref b24), (.int mx)]) (rest := []) (lenOf pd__Ljava_lang_String_I_Z rfl) rfl (by show 2 * 0 + _ ≤ _; exact Nat.le_of_eq rfl) (hb hby at_138) (fun _ _ => ⟨rfl, ej32, (by decide : 4 + 0 ≤ _), (by decide : 12 + 0 ≤ _)⟩)
    dsimp only [Pt.U, Pt.locs, Pt.cells, Pt.slots] at X34 l34 y34 z34 st34 hQ34
    subst l34 y34 z34
    obtain ⟨rfl, N34q, e34⟩ := hQ34
    have N34 := Fr.app Nj32 N34q
    refine go_of (B := (T34.setTop (mkF m 141 #[.val (.int sl), .val (.int mx), .val (.int xa), .val (.int xb), .val (.int xc), .val (.int xd), .val (.int (2 : Int32)), .val (.int (own_cc xa)), .val (.int (own_cc xb)), .val (.int (own_cc xc)), .val (.int (own_cc xd)), .val (.ref b24), .val (.int xe)] [(.int (own_nm 2 mx [(own_cc xa), (own_cc xb)]))]))) (st34) ?_
    refine go_of (B := (T34.setTop (mkF m 151 #[.val (.int sl), .val (.int mx), .val (.int xa), .val (.int xb), .val (.int xc), .val (.int xd), .val (.int (2 : Int32)), .val (.int (own_cc xa)), .val (.int (own_cc xb)), .val (.int (own_cc xc)), .val (.int (own_cc xd)), .val (.ref b24), .val (.int xe)] [(.int (1 : Int32))]))) (fun _ kk => XS.iload X34.here hx rfl (hb hby at_141) rfl (XS.icmpNo X34.here hx rfl (hb hby at_143) rfl (teq hjHJ32.symm).2 (XS.iconst X34.here hx rfl (hb hby at_146) (XS.goto X34.here hx rfl (pc0 := 147) (pc' := 151) rfl (hb hby at_147) (by decide) (by decide) kk)))) ?_
    refine go_endH X34 hZ hEL HC31 hh0 e34 hS (by rw [e34]; omega) (v := some (.int (nar .boolean (1 : Int32)))) (fun h => by rw [hret] at h; cases h) hlk (by decide) (by decide) (Q := (Q_rm0 Z sl mx xa xb xc xd gC gF h0 n0)) ?_ (fun fs hr => retN X34 hx (t := .boolean) hret (by simp) (hb hby at_151) hr)
    unfold Q_rm0
    try rw [e34]
    exact ⟨rfl, N34⟩
  refine go_of (B := (T31.setTop (mkF m 69 #[.val (.int sl), .val (.int mx), .val (.int xa), .val (.int xb), .val (.int xc), .val (.int xd), .val (.int (2 : Int32)), .val (.int (own_cc xa)), .val (.int (own_cc xb)), .val (.int (own_cc xc)), .val (.int (own_cc xd)), .val (.ref b24), .unset] [(.int mx), (.int (2 : Int32))]))) (fun _ kk => XS.iload X31.here hx rfl (hb hby at_60) rfl (XS.iconst X31.here hx rfl (hb hby at_62) (XS.icmpNo X31.here hx rfl (hb hby at_63) rfl (flt (by decide : ¬ ((2 : Int32) < (1 : Int32)))).1 (XS.iload X31.here hx rfl (hb hby at_66) rfl (XS.iloadN X31.here hx rfl (hb hby at_68) rfl kk))))) ?_
  by_cases hcc35 : mx < (2 : Int32)
  · refine go_of (B := (T31.setTop (mkF m 135 #[.val (.int sl), .val (.int mx), .val (.int xa), .val (.int xb), .val (.int xc), .val (.int xd), .val (.int (2 : Int32)), .val (.int (own_cc xa)), .val (.int (own_cc xb)), .val (.int (own_cc xc)), .val (.int (own_cc xd)), .val (.ref b24), .val (.int (0 : Int32))] []))) (fun _ kk => XS.icmpYes X31.here hx rfl (pc0 := 69) (pc' := 132) rfl (hb hby at_69) rfl (tlt hcc35).2.2.1 (by decide) (by decide) (XS.iconst X31.here hx rfl (hb hby at_132) (XS.istore X31.here hx rfl (hb hby at_133) rfl rfl kk))) ?_
    exact HJ32 _ _ X31 rfl N31 (0 : Int32) (by simp [own_nm, hcc35])
  · refine go_of (B := (T31.setTop (mkF m 80 #[.val (.int sl), .val (.int mx), .val (.int xa), .val (.int xb), .val (.int xc), .val (.int xd), .val (.int (2 : Int32)), .val (.int (own_cc xa)), .val (.int (own_cc xb)), .val (.int (own_cc xc)), .val (.int (own_cc xd)), .val (.ref b24), .unset] [(.int (own_cc xa))]))) (fun _ kk => XS.icmpNo X31.here hx rfl (hb hby at_69) rfl (flt hcc35).2.2.1 (XS.iload X31.here hx rfl (hb hby at_72) rfl (XS.iconst X31.here hx rfl (hb hby at_74) (XS.icmpNo X31.here hx rfl (hb hby at_75) rfl (flt (by decide : ¬ ((2 : Int32) < (1 : Int32)))).1 (XS.iload X31.here hx rfl (hb hby at_78) rfl kk))))) ?_
    obtain ⟨_, _, ⟨T36, L36, k36, n36⟩, -, X36, ⟨Lc36, hQ36, l36, y36, z36⟩, st36⟩ := Jvm.LawKit.callS X31 hx (y := MN2) hown (mvT hZ (wd 47 rfl)) (mvT hZ (wd 48 rfl)) (mvT hZ (wd 6 rfl)) (mvT hZ (wd 49 rfl)) (by decide) (backOf (W := 0) (okc l Z a0 hw [] (own_cc xa) T31.heap n0 (by first | omega | exact own_ne (by omega) | exact own_le (by omega) | exact own_lt (by omega))) hZ (wd 49 rfl) (wd 6 rfl) (by decide) (by decide)) (g := (mkF m 80 #[.val (.int sl), .val (.int mx), .val (.int xa), .val (.int xb), .val (.int xc), .val (.int xd), .val (.int (2 : Int32)), .val (.int (own_cc xa)), .val (.int (own_cc xb)), .val (.int (own_cc xc)), .val (.int (own_cc xd)), .val (.ref b24), .unset] [(.int (own_cc xa))])) rfl (by rw [hml]; rfl) (argsL := [(.int (own_cc xa))]) (rest := []) (lenOf pd__C_Z rfl) rfl (by show 2 * 0 + _ ≤ _; exact Nat.le_of_eq rfl) (hb hby at_80) (fun _ _ => ⟨rfl, rfl, (by decide : 4 + 0 ≤ _), (by decide : 12 + 0 ≤ _)⟩)
    dsimp only [Pt.U, Pt.locs, Pt.cells, Pt.slots] at X36 l36 y36 z36 st36 hQ36
    subst l36 y36 z36
    obtain ⟨rfl, N36q, e36⟩ := hQ36
    have N36 := Fr.app N31 N36q
    refine go_of (B := (T36.setTop (mkF m 83 #[.val (.int sl), .val (.int mx), .val (.int xa), .val (.int xb), .val (.int xc), .val (.int xd), .val (.int (2 : Int32)), .val (.int (own_cc xa)), .val (.int (own_cc xb)), .val (.int (own_cc xc)), .val (.int (own_cc xd)), .val (.ref b24), .unset] [(.int (own_oki (own_cc xa)))]))) (st36) ?_
    by_cases hcc37 : (own_oki (own_cc xa)) = (0 : Int32)
    · refine go_of (B := (T36.setTop (mkF m 135 #[.val (.int sl), .val (.int mx), .val (.int xa), .val (.int xb), .val (.int xc), .val (.int xd), .val (.int (2 : Int32)), .val (.int (own_cc xa)), .val (.int (own_cc xb)), .val (.int (own_cc xc)), .val (.int (own_cc xd)), .val (.ref b24), .val (.int (0 : Int32))] []))) (fun _ kk => XS.ifYes X36.here hx rfl (pc0 := 83) (pc' := 132) rfl (hb hby at_83) rfl ((if0 _ _).trans (teq hcc37).1) (by decide) (by decide) (XS.iconst X36.here hx rfl (hb hby at_132) (XS.istore X36.here hx rfl (hb hby at_133) rfl rfl kk))) ?_
      exact HJ32 _ _ X36 e36 N36 (0 : Int32) (by rw [own_okk] at hcc37; simp [own_nm, hcc35, hcc37])
    · refine go_of (B := (T36.setTop (mkF m 94 #[.val (.int sl), .val (.int mx), .val (.int xa), .val (.int xb), .val (.int xc), .val (.int xd), .val (.int (2 : Int32)), .val (.int (own_cc xa)), .val (.int (own_cc xb)), .val (.int (own_cc xc)), .val (.int (own_cc xd)), .val (.ref b24), .unset] [(.int (own_cc xb))]))) (fun _ kk => XS.ifNo X36.here hx rfl (hb hby at_83) rfl ((if0 _ _).trans (feq hcc37).1) (XS.iload X36.here hx rfl (hb hby at_86) rfl (XS.iconst X36.here hx rfl (hb hby at_88) (XS.icmpNo X36.here hx rfl (hb hby at_89) rfl (flt (by decide : ¬ ((2 : Int32) < (2 : Int32)))).1 (XS.iload X36.here hx rfl (hb hby at_92) rfl kk))))) ?_
      obtain ⟨_, _, ⟨T38, L38, k38, n38⟩, -, X38, ⟨Lc38, hQ38, l38, y38, z38⟩, st38⟩ := Jvm.LawKit.callS X36 hx (y := MN2) hown (mvT hZ (wd 47 rfl)) (mvT hZ (wd 48 rfl)) (mvT hZ (wd 6 rfl)) (mvT hZ (wd 49 rfl)) (by decide) (backOf (W := 0) (okc l Z a0 hw [] (own_cc xb) T31.heap n0 (by first | omega | exact own_ne (by omega) | exact own_le (by omega) | exact own_lt (by omega))) hZ (wd 49 rfl) (wd 6 rfl) (by decide) (by decide)) (g := (mkF m 94 #[.val (.int sl), .val (.int mx), .val (.int xa), .val (.int xb), .val (.int xc), .val (.int xd), .val (.int (2 : Int32)), .val (.int (own_cc xa)), .val (.int (own_cc xb)), .val (.int (own_cc xc)), .val (.int (own_cc xd)), .val (.ref b24), .unset] [(.int (own_cc xb))])) rfl (by rw [hml]; rfl) (argsL := [(.int (own_cc xb))]) (rest := []) (lenOf pd__C_Z rfl) rfl (by show 2 * 0 + _ ≤ _; exact Nat.le_of_eq rfl) (hb hby at_94) (fun _ _ => ⟨rfl, e36, (by decide : 4 + 0 ≤ _), (by decide : 12 + 0 ≤ _)⟩)
      dsimp only [Pt.U, Pt.locs, Pt.cells, Pt.slots] at X38 l38 y38 z38 st38 hQ38
      subst l38 y38 z38
      obtain ⟨rfl, N38q, e38⟩ := hQ38
      have N38 := Fr.app N36 N38q
      refine go_of (B := (T38.setTop (mkF m 97 #[.val (.int sl), .val (.int mx), .val (.int xa), .val (.int xb), .val (.int xc), .val (.int xd), .val (.int (2 : Int32)), .val (.int (own_cc xa)), .val (.int (own_cc xb)), .val (.int (own_cc xc)), .val (.int (own_cc xd)), .val (.ref b24), .unset] [(.int (own_oki (own_cc xb)))]))) (st38) ?_
      by_cases hcc39 : (own_oki (own_cc xb)) = (0 : Int32)
      · refine go_of (B := (T38.setTop (mkF m 135 #[.val (.int sl), .val (.int mx), .val (.int xa), .val (.int xb), .val (.int xc), .val (.int xd), .val (.int (2 : Int32)), .val (.int (own_cc xa)), .val (.int (own_cc xb)), .val (.int (own_cc xc)), .val (.int (own_cc xd)), .val (.ref b24), .val (.int (0 : Int32))] []))) (fun _ kk => XS.ifYes X38.here hx rfl (pc0 := 97) (pc' := 132) rfl (hb hby at_97) rfl ((if0 _ _).trans (teq hcc39).1) (by decide) (by decide) (XS.iconst X38.here hx rfl (hb hby at_132) (XS.istore X38.here hx rfl (hb hby at_133) rfl rfl kk))) ?_
        exact HJ32 _ _ X38 e38 N38 (0 : Int32) (by rw [own_okk] at hcc37; rw [own_okk] at hcc39; simp [own_nm, hcc35, hcc37, hcc39])
      · refine go_of (B := (T38.setTop (mkF m 117 #[.val (.int sl), .val (.int mx), .val (.int xa), .val (.int xb), .val (.int xc), .val (.int xd), .val (.int (2 : Int32)), .val (.int (own_cc xa)), .val (.int (own_cc xb)), .val (.int (own_cc xc)), .val (.int (own_cc xd)), .val (.ref b24), .unset] [(.int (4 : Int32)), (.int (2 : Int32))]))) (fun _ kk => XS.ifNo X38.here hx rfl (hb hby at_97) rfl ((if0 _ _).trans (feq hcc39).1) (XS.iload X38.here hx rfl (hb hby at_100) rfl (XS.iconst X38.here hx rfl (hb hby at_102) (XS.icmpYes X38.here hx rfl (pc0 := 103) (pc' := 114) rfl (hb hby at_103) rfl (tlt (by decide : (2 : Int32) < (3 : Int32))).1 (by decide) (by decide) (XS.iload X38.here hx rfl (hb hby at_114) rfl (XS.iconst X38.here hx rfl (hb hby at_116) kk)))))) ?_
        refine go_of (B := (T38.setTop (mkF m 135 #[.val (.int sl), .val (.int mx), .val (.int xa), .val (.int xb), .val (.int xc), .val (.int xd), .val (.int (2 : Int32)), .val (.int (own_cc xa)), .val (.int (own_cc xb)), .val (.int (own_cc xc)), .val (.int (own_cc xd)), .val (.ref b24), .val (.int (1 : Int32))] []))) (fun _ kk => XS.icmpYes X38.here hx rfl (pc0 := 117) (pc' := 128) rfl (hb hby at_117) rfl (tlt (by decide : (2 : Int32) < (4 : Int32))).1 (by decide) (by decide) (XS.iconst X38.here hx rfl (hb hby at_128) (XS.goto X38.here hx rfl (pc0 := 129) (pc' := 133) rfl (hb hby at_129) (by decide) (by decide) (XS.istore X38.here hx rfl (hb hby at_133) rfl rfl kk)))) ?_
        exact HJ32 _ _ X38 e38 N38 (1 : Int32) (by rw [own_okk] at hcc37; rw [own_okk] at hcc39; simp [own_nm, hcc35, hcc37, hcc39])
theorem lw3 {p : Program} {l : Launch} {e : Env} {s : State} {m : MethodId} {args : Array Value} {below : List Frame} {meth : Method} {c : Code} {Z : State} {a0 : Array Value} {h0 : Heap} {n0 : Nat} (sl : Int32) (mx : Int32) (xa : Int32) (xb : Int32) (xc : Int32) (xd : Int32) (gC : Int32) (gF : Value) {T0 : State} {locs : List Loc}
    (X0 : Stand p l e room_1 s m args below meth c T0 locs 0 0) (hx : p.tables.exec = Jvm.exec) (hZ : Z.Warmed39 s.vm) (hw : TW a0 Z) (hby : c.code = code) (hml : c.maxLocals = 13) (hown : s.vm.findClass "com/example/libpubid/libpubid/store/NamesIsNamePinLaw" = some m.cls) (hret : meth.sig.returnType = (some .boolean)) (hlk : meth.locks = false) (e0 : T0.heap = h0) (N0 : Fr n0 locs) (Z0 : n0 ≤ h0.size) (O : Old Z n0 h0) (SC : Sta Z Z.heap "java/lang/String" "COMPACT_STRINGS" "Z" (.int gC)) (hgC : ¬ gC = (0 : Int32)) (SU : US Z) (SF : Sta Z Z.heap "jdk/internal/util/Preconditions" "SIOOBE_FORMATTER" "Ljava/util/function/BiFunction;" gF) (rgF : gF.isRef = true) (hh0 : s.heap = h0) (hCH : CHv Z own_EL s.vm h0) :
    Go p e below (T0.setTop (mkF m 8 #[.val (.int sl), .val (.int mx), .val (.int xa), .val (.int xb), .val (.int xc), .val (.int xd), .val (.int (3 : Int32)), .unset, .unset, .unset, .unset, .unset, .unset] [])) (fun oo' U2' => ∃ vv' LL', oo' = .returned vv' ∧ (Q_rm0 Z sl mx xa xb xc xd gC gF h0 n0) vv' U2'.heap LL' ∧ CHr Z own_EL s.vm s.heap U2'.vm U2'.heap ∧ ReturnedEndW s oo' U2' LL' room_1.cells room_1.slots) := by
  have wd := @own_wd _ _ hw
  have X0 : Stand p l e room_1 (s.setVm s.vm) m args below meth c T0 locs 0 0 := X0
  have hS : s.Since s.vm 0 := (State.WarmedH.refl s).since 0
  have hEL := own_EW hw
  have HC0 := CHr.refl hCH
  refine go_of (B := (T0.setTop (mkF m 16 #[.val (.int sl), .val (.int mx), .val (.int xa), .val (.int xb), .val (.int xc), .val (.int xd), .val (.int (3 : Int32)), .val (.int (own_cc xa)), .unset, .unset, .unset, .unset, .unset] [(.int xb)]))) (fun _ kk => XS.iloadN X0.here hx rfl (hb hby at_8) rfl (X0.ldcInt hx hown (mvT hZ (wd 0 rfl)) (g := (mkF m 9 #[.val (.int sl), .val (.int mx), .val (.int xa), .val (.int xb), .val (.int xc), .val (.int xd), .val (.int (3 : Int32)), .unset, .unset, .unset, .unset, .unset, .unset] [(.int xa)])) rfl (hb hby at_9) _ (XS.iand X0.here hx rfl (hb hby at_11) rfl (XS.i2c X0.here hx rfl (hb hby at_12) rfl (XS.istore X0.here hx rfl (hb hby at_13) rfl rfl (XS.iloadN X0.here hx rfl (hb hby at_15) rfl kk)))))) ?_
  refine go_of (B := (T0.setTop (mkF m 26 #[.val (.int sl), .val (.int mx), .val (.int xa), .val (.int xb), .val (.int xc), .val (.int xd), .val (.int (3 : Int32)), .val (.int (own_cc xa)), .val (.int (own_cc xb)), .unset, .unset, .unset, .unset] [(.int (65535 : Int32)), (.int xc)]))) (fun _ kk => X0.ldcInt hx hown (mvT hZ (wd 0 rfl)) (g := (mkF m 16 #[.val (.int sl), .val (.int mx), .val (.int xa), .val (.int xb), .val (.int xc), .val (.int xd), .val (.int (3 : Int32)), .val (.int (own_cc xa)), .unset, .unset, .unset, .unset, .unset] [(.int xb)])) rfl (hb hby at_16) _ (XS.iand X0.here hx rfl (hb hby at_18) rfl (XS.i2c X0.here hx rfl (hb hby at_19) rfl (XS.istore X0.here hx rfl (hb hby at_20) rfl rfl (XS.iload X0.here hx rfl (hb hby at_22) rfl (X0.ldcInt hx hown (mvT hZ (wd 0 rfl)) (g := (mkF m 24 #[.val (.int sl), .val (.int mx), .val (.int xa), .val (.int xb), .val (.int xc), .val (.int xd), .val (.int (3 : Int32)), .val (.int (own_cc xa)), .val (.int (own_cc xb)), .unset, .unset, .unset, .unset] [(.int xc)])) rfl (hb hby at_24) _ kk)))))) ?_
  refine go_of (B := (T0.setTop (mkF m 35 #[.val (.int sl), .val (.int mx), .val (.int xa), .val (.int xb), .val (.int xc), .val (.int xd), .val (.int (3 : Int32)), .val (.int (own_cc xa)), .val (.int (own_cc xb)), .val (.int (own_cc xc)), .unset, .unset, .unset] [(.int (xd &&& (65535 : Int32)))]))) (fun _ kk => XS.iand X0.here hx rfl (hb hby at_26) rfl (XS.i2c X0.here hx rfl (hb hby at_27) rfl (XS.istore X0.here hx rfl (hb hby at_28) rfl rfl (XS.iload X0.here hx rfl (hb hby at_30) rfl (X0.ldcInt hx hown (mvT hZ (wd 0 rfl)) (g := (mkF m 32 #[.val (.int sl), .val (.int mx), .val (.int xa), .val (.int xb), .val (.int xc), .val (.int xd), .val (.int (3 : Int32)), .val (.int (own_cc xa)), .val (.int (own_cc xb)), .val (.int (own_cc xc)), .unset, .unset, .unset] [(.int xd)])) rfl (hb hby at_32) _ (XS.iand X0.here hx rfl (hb hby at_34) rfl kk)))))) ?_
  refine go_of (B := (T0.setTop (mkF m 38 #[.val (.int sl), .val (.int mx), .val (.int xa), .val (.int xb), .val (.int xc), .val (.int xd), .val (.int (3 : Int32)), .val (.int (own_cc xa)), .val (.int (own_cc xb)), .val (.int (own_cc xc)), .val (.int (own_cc xd)), .unset, .unset] []))) (fun _ kk => XS.i2c X0.here hx rfl (hb hby at_35) rfl (XS.istore X0.here hx rfl (hb hby at_36) rfl rfl kk)) ?_
  obtain ⟨T40, h40, X40, e40, E40, A40, D40, -, st40⟩ := newO X0 hx hZ hown (wd 1 rfl) (wd 2 rfl) (wd 3 rfl) e0 (g := (mkF m 38 #[.val (.int sl), .val (.int mx), .val (.int xa), .val (.int xb), .val (.int xc), .val (.int xd), .val (.int (3 : Int32)), .val (.int (own_cc xa)), .val (.int (own_cc xb)), .val (.int (own_cc xc)), .val (.int (own_cc xd)), .unset, .unset] [])) rfl (hb hby at_38) (by decide) (by decide)
  obtain ⟨b40, g40⟩ : ∃ z, z = h0.size := ⟨_, rfl⟩
  rw [← g40] at A40 D40 st40
  have hi40 := own_nlt A40.lt
  have sz40 := E40.1
  have HC40 := HC0.trans (CHr.ext E40 HC0.1)
  have F40_value : Fld Z h40 b40 "java/lang/String" "value" "[B" .null := D40 (Or.inr (wd 21 rfl)) (ty := (.array .byte)) (by decide)
  have F40_coder : Fld Z h40 b40 "java/lang/String" "coder" "B" (.int (0 : Int32)) := D40 (Or.inr (wd 22 rfl)) (ty := .byte) (by decide)
  refine go_of (B := (T40.setTop (mkF m 41 #[.val (.int sl), .val (.int mx), .val (.int xa), .val (.int xb), .val (.int xc), .val (.int xd), .val (.int (3 : Int32)), .val (.int (own_cc xa)), .val (.int (own_cc xb)), .val (.int (own_cc xc)), .val (.int (own_cc xd)), .unset, .unset] [(.ref b40)]))) (st40) ?_
  refine go_of (B := (T40.setTop (mkF m 52 #[.val (.int sl), .val (.int mx), .val (.int xa), .val (.int xb), .val (.int xc), .val (.int xd), .val (.int (3 : Int32)), .val (.int (own_cc xa)), .val (.int (own_cc xb)), .val (.int (own_cc xc)), .val (.int (own_cc xd)), .unset, .unset] [(.int (own_cc xd)), (.int (own_cc xc)), (.int (own_cc xb)), (.int (own_cc xa)), (.int (3 : Int32)), (.ref b40), (.ref b40)]))) (fun _ kk => XS.dup X40.here hx rfl (hb hby at_41) rfl rfl (XS.iload X40.here hx rfl (hb hby at_42) rfl (XS.iload X40.here hx rfl (hb hby at_44) rfl (XS.iload X40.here hx rfl (hb hby at_46) rfl (XS.iload X40.here hx rfl (hb hby at_48) rfl (XS.iload X40.here hx rfl (hb hby at_50) rfl kk)))))) ?_
  obtain ⟨_, _, ⟨T41, L41, k41, n41⟩, -, X41, ⟨Lc41, hQ41, l41, y41, z41⟩, st41⟩ := Jvm.LawKit.callS X40 hx (y := MN1) hown (mvT hZ (wd 4 rfl)) (mvT hZ (wd 5 rfl)) (mvT hZ (wd 6 rfl)) (mvT hZ (wd 7 rfl)) (by decide) (backOf (W := 2) (bu_3 l Z a0 hw [] (own_cc xa) (own_cc xb) (own_cc xc) (own_cc xd) h40 n0 (by first | omega | exact own_ne (by omega) | exact own_le (by omega) | exact own_lt (by omega)) (own_ccr xa) (own_ccr xb) (own_ccr xc) (own_ccr xd)) hZ (wd 7 rfl) (wd 6 rfl) (by decide) (by decide)) (g := (mkF m 52 #[.val (.int sl), .val (.int mx), .val (.int xa), .val (.int xb), .val (.int xc), .val (.int xd), .val (.int (3 : Int32)), .val (.int (own_cc xa)), .val (.int (own_cc xb)), .val (.int (own_cc xc)), .val (.int (own_cc xd)), .unset, .unset] [(.int (own_cc xd)), (.int (own_cc xc)), (.int (own_cc xb)), (.int (own_cc xa)), (.int (3 : Int32)), (.ref b40), (.ref b40)])) rfl (by rw [hml]; rfl) (argsL := [(.int (3 : Int32)), (.int (own_cc xa)), (.int (own_cc xb)), (.int (own_cc xc)), (.int (own_cc xd))]) (rest := [(.ref b40), (.ref b40)]) (lenOf pd__ICCCC__C rfl) rfl (by show 2 * 0 + _ ≤ _; exact Nat.le_of_eq rfl) (hb hby at_52) (fun _ _ => ⟨rfl, e40, (by decide : 1 + 1 ≤ _), (by decide : 4 + 3 ≤ _)⟩)
  dsimp only [Pt.U, Pt.locs, Pt.cells, Pt.slots] at X41 l41 y41 z41 st41 hQ41
  subst l41 y41 z41
  obtain ⟨b41, k41, rfl, N41q, lo41, K41, V41⟩ := hQ41
  have lo41 := own_nle lo41
  have N41 := Fr.app N0 N41q
  have hi41 := own_nlt (V41.lt)
  have sz41 := K41.1
  have SK41 : ∀ x ∈ ([] : List Addr), Safe Z own_EL s.vm h40 x := all0
  have HC41 := HC40.trans (CHr.keep K41 SK41 HC40.1)
  refine go_of (B := (T41.setTop (mkF m 55 #[.val (.int sl), .val (.int mx), .val (.int xa), .val (.int xb), .val (.int xc), .val (.int xd), .val (.int (3 : Int32)), .val (.int (own_cc xa)), .val (.int (own_cc xb)), .val (.int (own_cc xc)), .val (.int (own_cc xd)), .unset, .unset] [(.ref b41), (.ref b40), (.ref b40)]))) (st41) ?_
  have cf_42 := (A40.keep K41)
  have cf_43 := (F40_value.keep K41 nin0)
  have sf_44 := (own_safe_null hZ.alike cf_42 cf_43 : (Safe Z own_EL _ T41.heap b40))
  have cf_45 := ((O.ext E40).keep K41 all0)
  have cf_46 := (F40_coder.keep K41 nin0)
  obtain ⟨_, _, ⟨T47, L47, k47, n47⟩, -, X47, ⟨Lc47, hQ47, l47, y47, z47⟩, st47⟩ := X41.specialBack hx (y := MN3) rfl hown (mvT hZ (wd 9 rfl)) (mvT hZ (wd 10 rfl)) (mvT hZ (wd 11 rfl)) (by decide) (backOf (W := 1) (u_i1_3 l Z a0 hw [] b40 b41 (own_cc xa) (own_cc xb) (own_cc xc) k41 gC _ _ T41.heap n0 (by first | omega | exact own_ne (by omega) | exact own_le (by omega) | exact own_lt (by omega)) cf_45 SC hgC SU cf_42 cf_43 cf_46 (by first | omega | exact own_ne (by omega) | exact own_le (by omega) | exact own_lt (by omega)) V41 (own_ccr xa) (own_ccr xb) (own_ccr xc)) hZ (wd 11 rfl) (wd 3 rfl) (by decide) (by decide)) (g := (mkF m 55 #[.val (.int sl), .val (.int mx), .val (.int xa), .val (.int xb), .val (.int xc), .val (.int xd), .val (.int (3 : Int32)), .val (.int (own_cc xa)), .val (.int (own_cc xb)), .val (.int (own_cc xc)), .val (.int (own_cc xd)), .unset, .unset] [(.ref b41), (.ref b40), (.ref b40)])) rfl (by rw [hml]; rfl) (Steps.refl _) (a := b40) (argsL := [(.ref b41)]) (rest := [(.ref b40)]) (lenOf pd___C_V rfl) rfl (by show 2 * 0 + _ ≤ _; exact Nat.le_of_eq rfl) (hb hby at_55) (fun _ _ => ⟨rfl, rfl, (by decide : 2 + 2 ≤ _), (by decide : 7 + 9 ≤ _)⟩)
  dsimp only [Pt.U, Pt.locs, Pt.cells, Pt.slots] at X47 l47 y47 z47 st47 hQ47
  subst l47 y47 z47
  obtain ⟨rfl, N47q, K47, S47⟩ := hQ47
  have N47 := Fr.app N41 N47q
  have sz47 := K47.1
  have SK47 : ∀ x ∈ [b40], Safe Z own_EL _ T41.heap x := (allS sf_44 all0)
  have HC47 := HC41.trans (CHr.keep K47 SK47 HC41.1)
  refine go_tr (B := (T47.setTop (mkF m 58 #[.val (.int sl), .val (.int mx), .val (.int xa), .val (.int xb), .val (.int xc), .val (.int xd), .val (.int (3 : Int32)), .val (.int (own_cc xa)), .val (.int (own_cc xb)), .val (.int (own_cc xc)), .val (.int (own_cc xd)), .unset, .unset] [(.ref b40)]))) (st47) ?_
  refine go_of (B := (T47.setTop (mkF m 60 #[.val (.int sl), .val (.int mx), .val (.int xa), .val (.int xb), .val (.int xc), .val (.int xd), .val (.int (3 : Int32)), .val (.int (own_cc xa)), .val (.int (own_cc xb)), .val (.int (own_cc xc)), .val (.int (own_cc xd)), .val (.ref b40), .unset] []))) (fun _ kk => XS.astore X47.here hx rfl (hb hby at_58) rfl rfl rfl kk) ?_
  have HJ48 : ∀ (Tj48 : State) (Lj48 : List Loc), Stand p l e room_1 (s.setVm s.vm) m args below meth c Tj48 Lj48 4 16 → Tj48.heap = T47.heap → Fr n0 Lj48 → ∀ (xe : Int32), xe = own_nm 3 mx [(own_cc xa), (own_cc xb), (own_cc xc)] → Go p e below (Tj48.setTop (mkF m 135 #[.val (.int sl), .val (.int mx), .val (.int xa), .val (.int xb), .val (.int xc), .val (.int xd), .val (.int (3 : Int32)), .val (.int (own_cc xa)), .val (.int (own_cc xb)), .val (.int (own_cc xc)), .val (.int (own_cc xd)), .val (.ref b40), .val (.int xe)] [])) (fun oo' U2' => ∃ vv' LL', oo' = .returned vv' ∧ (Q_rm0 Z sl mx xa xb xc xd gC gF h0 n0) vv' U2'.heap LL' ∧ CHr Z own_EL s.vm s.heap U2'.vm U2'.heap ∧ ReturnedEndW s oo' U2' LL' room_1.cells room_1.slots) := by
    intro Tj48 Lj48 Xj48 ej48 Nj48 xe hjHJ48
    refine go_of (B := (Tj48.setTop (mkF m 138 #[.val (.int sl), .val (.int mx), .val (.int xa), .val (.int xb), .val (.int xc), .val (.int xd), .val (.int (3 : Int32)), .val (.int (own_cc xa)), .val (.int (own_cc xb)), .val (.int (own_cc xc)), .val (.int (own_cc xd)), .val (.ref b40), .val (.int xe)] [(.int mx), (.ref b40)]))) (fun _ kk => XS.aload Xj48.here hx rfl (hb hby at_135) rfl rfl (XS.iloadN Xj48.here hx rfl (hb hby at_137) rfl kk)) ?_
    have cf_49 := (cf_45.keep K47 (allS (by first | omega | exact own_ne (by omega) | exact own_le (by omega) | exact own_lt (by omega)) all0))
    obtain ⟨_, _, ⟨T50, L50, k50, n50⟩, -, X50, ⟨Lc50, hQ50, l50, y50, z50⟩, st50⟩ := Jvm.LawKit.callS Xj48 hx (y := MN0) hown (mvT hZ (wd 27 rfl)) (mvT hZ (wd 28 rfl)) (mvT hZ (wd 29 rfl)) (mvT hZ (wd 30 rfl)) (by decide) (backOf (W := 0) (nam_3 l Z a0 hw [] b40 mx (own_cc xa) (own_cc xb) (own_cc xc) gC gF T47.heap n0 (by first | omega | exact own_ne (by omega) | exact own_le (by omega) | exact own_lt (by omega)) cf_49 SC hgC S47 SU SF rgF) hZ (wd 30 rfl) (wd 29 rfl) (by decide) (by decide)) (g := (mkF m 138 #[.val (.int sl), .val (.int mx), .val (.int xa), .val (.int xb), .val (.int xc), .val (.int xd), .val (.int (3 : Int32)), .val (.int (own_cc xa)), .val (.int (own_cc xb)), .val (.int (own_cc xc)), .val (.int (own_cc xd)), .val (.ref b40), .val (.int xe)] [(.int mx), (.ref b40)])) rfl (by rw [hml]; rfl) (argsL := [(.ref b40), (.int mx)]) (rest := []) (lenOf pd__Ljava_lang_String_I_Z rfl) rfl (by show 2 * 0 + _ ≤ _; exact Nat.le_of_eq rfl) (hb hby at_138) (fun _ _ => ⟨rfl, ej48, (by decide : 4 + 0 ≤ _), (by decide : 16 + 0 ≤ _)⟩)
    dsimp only [Pt.U, Pt.locs, Pt.cells, Pt.slots] at X50 l50 y50 z50 st50 hQ50
    subst l50 y50 z50
    obtain ⟨rfl, N50q, e50⟩ := hQ50
    have N50 := Fr.app Nj48 N50q
    refine go_of (B := (T50.setTop (mkF m 141 #[.val (.int sl), .val (.int mx), .val (.int xa), .val (.int xb), .val (.int xc), .val (.int xd), .val (.int (3 : Int32)), .val (.int (own_cc xa)), .val (.int (own_cc xb)), .val (.int (own_cc xc)), .val (.int (own_cc xd)), .val (.ref b40), .val (.int xe)] [(.int (own_nm 3 mx [(own_cc xa), (own_cc xb), (own_cc xc)]))]))) (st50) ?_
    refine go_of (B := (T50.setTop (mkF m 151 #[.val (.int sl), .val (.int mx), .val (.int xa), .val (.int xb), .val (.int xc), .val (.int xd), .val (.int (3 : Int32)), .val (.int (own_cc xa)), .val (.int (own_cc xb)), .val (.int (own_cc xc)), .val (.int (own_cc xd)), .val (.ref b40), .val (.int xe)] [(.int (1 : Int32))]))) (fun _ kk => XS.iload X50.here hx rfl (hb hby at_141) rfl (XS.icmpNo X50.here hx rfl (hb hby at_143) rfl (teq hjHJ48.symm).2 (XS.iconst X50.here hx rfl (hb hby at_146) (XS.goto X50.here hx rfl (pc0 := 147) (pc' := 151) rfl (hb hby at_147) (by decide) (by decide) kk)))) ?_
    refine go_endH X50 hZ hEL HC47 hh0 e50 hS (by rw [e50]; omega) (v := some (.int (nar .boolean (1 : Int32)))) (fun h => by rw [hret] at h; cases h) hlk (by decide) (by decide) (Q := (Q_rm0 Z sl mx xa xb xc xd gC gF h0 n0)) ?_ (fun fs hr => retN X50 hx (t := .boolean) hret (by simp) (hb hby at_151) hr)
    unfold Q_rm0
    try rw [e50]
    exact ⟨rfl, N50⟩
  refine go_of (B := (T47.setTop (mkF m 69 #[.val (.int sl), .val (.int mx), .val (.int xa), .val (.int xb), .val (.int xc), .val (.int xd), .val (.int (3 : Int32)), .val (.int (own_cc xa)), .val (.int (own_cc xb)), .val (.int (own_cc xc)), .val (.int (own_cc xd)), .val (.ref b40), .unset] [(.int mx), (.int (3 : Int32))]))) (fun _ kk => XS.iload X47.here hx rfl (hb hby at_60) rfl (XS.iconst X47.here hx rfl (hb hby at_62) (XS.icmpNo X47.here hx rfl (hb hby at_63) rfl (flt (by decide : ¬ ((3 : Int32) < (1 : Int32)))).1 (XS.iload X47.here hx rfl (hb hby at_66) rfl (XS.iloadN X47.here hx rfl (hb hby at_68) rfl kk))))) ?_
  by_cases hcc51 : mx < (3 : Int32)
  · refine go_of (B := (T47.setTop (mkF m 135 #[.val (.int sl), .val (.int mx), .val (.int xa), .val (.int xb), .val (.int xc), .val (.int xd), .val (.int (3 : Int32)), .val (.int (own_cc xa)), .val (.int (own_cc xb)), .val (.int (own_cc xc)), .val (.int (own_cc xd)), .val (.ref b40), .val (.int (0 : Int32))] []))) (fun _ kk => XS.icmpYes X47.here hx rfl (pc0 := 69) (pc' := 132) rfl (hb hby at_69) rfl (tlt hcc51).2.2.1 (by decide) (by decide) (XS.iconst X47.here hx rfl (hb hby at_132) (XS.istore X47.here hx rfl (hb hby at_133) rfl rfl kk))) ?_
    exact HJ48 _ _ X47 rfl N47 (0 : Int32) (by simp [own_nm, hcc51])
  · refine go_of (B := (T47.setTop (mkF m 80 #[.val (.int sl), .val (.int mx), .val (.int xa), .val (.int xb), .val (.int xc), .val (.int xd), .val (.int (3 : Int32)), .val (.int (own_cc xa)), .val (.int (own_cc xb)), .val (.int (own_cc xc)), .val (.int (own_cc xd)), .val (.ref b40), .unset] [(.int (own_cc xa))]))) (fun _ kk => XS.icmpNo X47.here hx rfl (hb hby at_69) rfl (flt hcc51).2.2.1 (XS.iload X47.here hx rfl (hb hby at_72) rfl (XS.iconst X47.here hx rfl (hb hby at_74) (XS.icmpNo X47.here hx rfl (hb hby at_75) rfl (flt (by decide : ¬ ((3 : Int32) < (1 : Int32)))).1 (XS.iload X47.here hx rfl (hb hby at_78) rfl kk))))) ?_
    obtain ⟨_, _, ⟨T52, L52, k52, n52⟩, -, X52, ⟨Lc52, hQ52, l52, y52, z52⟩, st52⟩ := Jvm.LawKit.callS X47 hx (y := MN2) hown (mvT hZ (wd 47 rfl)) (mvT hZ (wd 48 rfl)) (mvT hZ (wd 6 rfl)) (mvT hZ (wd 49 rfl)) (by decide) (backOf (W := 0) (okc l Z a0 hw [] (own_cc xa) T47.heap n0 (by first | omega | exact own_ne (by omega) | exact own_le (by omega) | exact own_lt (by omega))) hZ (wd 49 rfl) (wd 6 rfl) (by decide) (by decide)) (g := (mkF m 80 #[.val (.int sl), .val (.int mx), .val (.int xa), .val (.int xb), .val (.int xc), .val (.int xd), .val (.int (3 : Int32)), .val (.int (own_cc xa)), .val (.int (own_cc xb)), .val (.int (own_cc xc)), .val (.int (own_cc xd)), .val (.ref b40), .unset] [(.int (own_cc xa))])) rfl (by rw [hml]; rfl) (argsL := [(.int (own_cc xa))]) (rest := []) (lenOf pd__C_Z rfl) rfl (by show 2 * 0 + _ ≤ _; exact Nat.le_of_eq rfl) (hb hby at_80) (fun _ _ => ⟨rfl, rfl, (by decide : 4 + 0 ≤ _), (by decide : 16 + 0 ≤ _)⟩)
    dsimp only [Pt.U, Pt.locs, Pt.cells, Pt.slots] at X52 l52 y52 z52 st52 hQ52
    subst l52 y52 z52
    obtain ⟨rfl, N52q, e52⟩ := hQ52
    have N52 := Fr.app N47 N52q
    refine go_of (B := (T52.setTop (mkF m 83 #[.val (.int sl), .val (.int mx), .val (.int xa), .val (.int xb), .val (.int xc), .val (.int xd), .val (.int (3 : Int32)), .val (.int (own_cc xa)), .val (.int (own_cc xb)), .val (.int (own_cc xc)), .val (.int (own_cc xd)), .val (.ref b40), .unset] [(.int (own_oki (own_cc xa)))]))) (st52) ?_
    by_cases hcc53 : (own_oki (own_cc xa)) = (0 : Int32)
    · refine go_of (B := (T52.setTop (mkF m 135 #[.val (.int sl), .val (.int mx), .val (.int xa), .val (.int xb), .val (.int xc), .val (.int xd), .val (.int (3 : Int32)), .val (.int (own_cc xa)), .val (.int (own_cc xb)), .val (.int (own_cc xc)), .val (.int (own_cc xd)), .val (.ref b40), .val (.int (0 : Int32))] []))) (fun _ kk => XS.ifYes X52.here hx rfl (pc0 := 83) (pc' := 132) rfl (hb hby at_83) rfl ((if0 _ _).trans (teq hcc53).1) (by decide) (by decide) (XS.iconst X52.here hx rfl (hb hby at_132) (XS.istore X52.here hx rfl (hb hby at_133) rfl rfl kk))) ?_
      exact HJ48 _ _ X52 e52 N52 (0 : Int32) (by rw [own_okk] at hcc53; simp [own_nm, hcc51, hcc53])
    · refine go_of (B := (T52.setTop (mkF m 94 #[.val (.int sl), .val (.int mx), .val (.int xa), .val (.int xb), .val (.int xc), .val (.int xd), .val (.int (3 : Int32)), .val (.int (own_cc xa)), .val (.int (own_cc xb)), .val (.int (own_cc xc)), .val (.int (own_cc xd)), .val (.ref b40), .unset] [(.int (own_cc xb))]))) (fun _ kk => XS.ifNo X52.here hx rfl (hb hby at_83) rfl ((if0 _ _).trans (feq hcc53).1) (XS.iload X52.here hx rfl (hb hby at_86) rfl (XS.iconst X52.here hx rfl (hb hby at_88) (XS.icmpNo X52.here hx rfl (hb hby at_89) rfl (flt (by decide : ¬ ((3 : Int32) < (2 : Int32)))).1 (XS.iload X52.here hx rfl (hb hby at_92) rfl kk))))) ?_
      obtain ⟨_, _, ⟨T54, L54, k54, n54⟩, -, X54, ⟨Lc54, hQ54, l54, y54, z54⟩, st54⟩ := Jvm.LawKit.callS X52 hx (y := MN2) hown (mvT hZ (wd 47 rfl)) (mvT hZ (wd 48 rfl)) (mvT hZ (wd 6 rfl)) (mvT hZ (wd 49 rfl)) (by decide) (backOf (W := 0) (okc l Z a0 hw [] (own_cc xb) T47.heap n0 (by first | omega | exact own_ne (by omega) | exact own_le (by omega) | exact own_lt (by omega))) hZ (wd 49 rfl) (wd 6 rfl) (by decide) (by decide)) (g := (mkF m 94 #[.val (.int sl), .val (.int mx), .val (.int xa), .val (.int xb), .val (.int xc), .val (.int xd), .val (.int (3 : Int32)), .val (.int (own_cc xa)), .val (.int (own_cc xb)), .val (.int (own_cc xc)), .val (.int (own_cc xd)), .val (.ref b40), .unset] [(.int (own_cc xb))])) rfl (by rw [hml]; rfl) (argsL := [(.int (own_cc xb))]) (rest := []) (lenOf pd__C_Z rfl) rfl (by show 2 * 0 + _ ≤ _; exact Nat.le_of_eq rfl) (hb hby at_94) (fun _ _ => ⟨rfl, e52, (by decide : 4 + 0 ≤ _), (by decide : 16 + 0 ≤ _)⟩)
      dsimp only [Pt.U, Pt.locs, Pt.cells, Pt.slots] at X54 l54 y54 z54 st54 hQ54
      subst l54 y54 z54
      obtain ⟨rfl, N54q, e54⟩ := hQ54
      have N54 := Fr.app N52 N54q
      refine go_of (B := (T54.setTop (mkF m 97 #[.val (.int sl), .val (.int mx), .val (.int xa), .val (.int xb), .val (.int xc), .val (.int xd), .val (.int (3 : Int32)), .val (.int (own_cc xa)), .val (.int (own_cc xb)), .val (.int (own_cc xc)), .val (.int (own_cc xd)), .val (.ref b40), .unset] [(.int (own_oki (own_cc xb)))]))) (st54) ?_
      by_cases hcc55 : (own_oki (own_cc xb)) = (0 : Int32)
      · refine go_of (B := (T54.setTop (mkF m 135 #[.val (.int sl), .val (.int mx), .val (.int xa), .val (.int xb), .val (.int xc), .val (.int xd), .val (.int (3 : Int32)), .val (.int (own_cc xa)), .val (.int (own_cc xb)), .val (.int (own_cc xc)), .val (.int (own_cc xd)), .val (.ref b40), .val (.int (0 : Int32))] []))) (fun _ kk => XS.ifYes X54.here hx rfl (pc0 := 97) (pc' := 132) rfl (hb hby at_97) rfl ((if0 _ _).trans (teq hcc55).1) (by decide) (by decide) (XS.iconst X54.here hx rfl (hb hby at_132) (XS.istore X54.here hx rfl (hb hby at_133) rfl rfl kk))) ?_
        exact HJ48 _ _ X54 e54 N54 (0 : Int32) (by rw [own_okk] at hcc53; rw [own_okk] at hcc55; simp [own_nm, hcc51, hcc53, hcc55])
      · refine go_of (B := (T54.setTop (mkF m 108 #[.val (.int sl), .val (.int mx), .val (.int xa), .val (.int xb), .val (.int xc), .val (.int xd), .val (.int (3 : Int32)), .val (.int (own_cc xa)), .val (.int (own_cc xb)), .val (.int (own_cc xc)), .val (.int (own_cc xd)), .val (.ref b40), .unset] [(.int (own_cc xc))]))) (fun _ kk => XS.ifNo X54.here hx rfl (hb hby at_97) rfl ((if0 _ _).trans (feq hcc55).1) (XS.iload X54.here hx rfl (hb hby at_100) rfl (XS.iconst X54.here hx rfl (hb hby at_102) (XS.icmpNo X54.here hx rfl (hb hby at_103) rfl (flt (by decide : ¬ ((3 : Int32) < (3 : Int32)))).1 (XS.iload X54.here hx rfl (hb hby at_106) rfl kk))))) ?_
        obtain ⟨_, _, ⟨T56, L56, k56, n56⟩, -, X56, ⟨Lc56, hQ56, l56, y56, z56⟩, st56⟩ := Jvm.LawKit.callS X54 hx (y := MN2) hown (mvT hZ (wd 47 rfl)) (mvT hZ (wd 48 rfl)) (mvT hZ (wd 6 rfl)) (mvT hZ (wd 49 rfl)) (by decide) (backOf (W := 0) (okc l Z a0 hw [] (own_cc xc) T47.heap n0 (by first | omega | exact own_ne (by omega) | exact own_le (by omega) | exact own_lt (by omega))) hZ (wd 49 rfl) (wd 6 rfl) (by decide) (by decide)) (g := (mkF m 108 #[.val (.int sl), .val (.int mx), .val (.int xa), .val (.int xb), .val (.int xc), .val (.int xd), .val (.int (3 : Int32)), .val (.int (own_cc xa)), .val (.int (own_cc xb)), .val (.int (own_cc xc)), .val (.int (own_cc xd)), .val (.ref b40), .unset] [(.int (own_cc xc))])) rfl (by rw [hml]; rfl) (argsL := [(.int (own_cc xc))]) (rest := []) (lenOf pd__C_Z rfl) rfl (by show 2 * 0 + _ ≤ _; exact Nat.le_of_eq rfl) (hb hby at_108) (fun _ _ => ⟨rfl, e54, (by decide : 4 + 0 ≤ _), (by decide : 16 + 0 ≤ _)⟩)
        dsimp only [Pt.U, Pt.locs, Pt.cells, Pt.slots] at X56 l56 y56 z56 st56 hQ56
        subst l56 y56 z56
        obtain ⟨rfl, N56q, e56⟩ := hQ56
        have N56 := Fr.app N54 N56q
        refine go_of (B := (T56.setTop (mkF m 111 #[.val (.int sl), .val (.int mx), .val (.int xa), .val (.int xb), .val (.int xc), .val (.int xd), .val (.int (3 : Int32)), .val (.int (own_cc xa)), .val (.int (own_cc xb)), .val (.int (own_cc xc)), .val (.int (own_cc xd)), .val (.ref b40), .unset] [(.int (own_oki (own_cc xc)))]))) (st56) ?_
        by_cases hcc57 : (own_oki (own_cc xc)) = (0 : Int32)
        · refine go_of (B := (T56.setTop (mkF m 135 #[.val (.int sl), .val (.int mx), .val (.int xa), .val (.int xb), .val (.int xc), .val (.int xd), .val (.int (3 : Int32)), .val (.int (own_cc xa)), .val (.int (own_cc xb)), .val (.int (own_cc xc)), .val (.int (own_cc xd)), .val (.ref b40), .val (.int (0 : Int32))] []))) (fun _ kk => XS.ifYes X56.here hx rfl (pc0 := 111) (pc' := 132) rfl (hb hby at_111) rfl ((if0 _ _).trans (teq hcc57).1) (by decide) (by decide) (XS.iconst X56.here hx rfl (hb hby at_132) (XS.istore X56.here hx rfl (hb hby at_133) rfl rfl kk))) ?_
          exact HJ48 _ _ X56 e56 N56 (0 : Int32) (by rw [own_okk] at hcc53; rw [own_okk] at hcc55; rw [own_okk] at hcc57; simp [own_nm, hcc51, hcc53, hcc55, hcc57])
        · refine go_of (B := (T56.setTop (mkF m 133 #[.val (.int sl), .val (.int mx), .val (.int xa), .val (.int xb), .val (.int xc), .val (.int xd), .val (.int (3 : Int32)), .val (.int (own_cc xa)), .val (.int (own_cc xb)), .val (.int (own_cc xc)), .val (.int (own_cc xd)), .val (.ref b40), .unset] [(.int (1 : Int32))]))) (fun _ kk => XS.ifNo X56.here hx rfl (hb hby at_111) rfl ((if0 _ _).trans (feq hcc57).1) (XS.iload X56.here hx rfl (hb hby at_114) rfl (XS.iconst X56.here hx rfl (hb hby at_116) (XS.icmpYes X56.here hx rfl (pc0 := 117) (pc' := 128) rfl (hb hby at_117) rfl (tlt (by decide : (3 : Int32) < (4 : Int32))).1 (by decide) (by decide) (XS.iconst X56.here hx rfl (hb hby at_128) (XS.goto X56.here hx rfl (pc0 := 129) (pc' := 133) rfl (hb hby at_129) (by decide) (by decide) kk)))))) ?_
          refine go_of (B := (T56.setTop (mkF m 135 #[.val (.int sl), .val (.int mx), .val (.int xa), .val (.int xb), .val (.int xc), .val (.int xd), .val (.int (3 : Int32)), .val (.int (own_cc xa)), .val (.int (own_cc xb)), .val (.int (own_cc xc)), .val (.int (own_cc xd)), .val (.ref b40), .val (.int (1 : Int32))] []))) (fun _ kk => XS.istore X56.here hx rfl (hb hby at_133) rfl rfl kk) ?_
          exact HJ48 _ _ X56 e56 N56 (1 : Int32) (by rw [own_okk] at hcc53; rw [own_okk] at hcc55; rw [own_okk] at hcc57; simp [own_nm, hcc51, hcc53, hcc55, hcc57])
theorem lw4 {p : Program} {l : Launch} {e : Env} {s : State} {m : MethodId} {args : Array Value} {below : List Frame} {meth : Method} {c : Code} {Z : State} {a0 : Array Value} {h0 : Heap} {n0 : Nat} (sl : Int32) (mx : Int32) (xa : Int32) (xb : Int32) (xc : Int32) (xd : Int32) (gC : Int32) (gF : Value) {T0 : State} {locs : List Loc}
    (X0 : Stand p l e room_1 s m args below meth c T0 locs 0 0) (hx : p.tables.exec = Jvm.exec) (hZ : Z.Warmed39 s.vm) (hw : TW a0 Z) (hby : c.code = code) (hml : c.maxLocals = 13) (hown : s.vm.findClass "com/example/libpubid/libpubid/store/NamesIsNamePinLaw" = some m.cls) (hret : meth.sig.returnType = (some .boolean)) (hlk : meth.locks = false) (e0 : T0.heap = h0) (N0 : Fr n0 locs) (Z0 : n0 ≤ h0.size) (O : Old Z n0 h0) (SC : Sta Z Z.heap "java/lang/String" "COMPACT_STRINGS" "Z" (.int gC)) (hgC : ¬ gC = (0 : Int32)) (SU : US Z) (SF : Sta Z Z.heap "jdk/internal/util/Preconditions" "SIOOBE_FORMATTER" "Ljava/util/function/BiFunction;" gF) (rgF : gF.isRef = true) (hh0 : s.heap = h0) (hCH : CHv Z own_EL s.vm h0) :
    Go p e below (T0.setTop (mkF m 8 #[.val (.int sl), .val (.int mx), .val (.int xa), .val (.int xb), .val (.int xc), .val (.int xd), .val (.int (4 : Int32)), .unset, .unset, .unset, .unset, .unset, .unset] [])) (fun oo' U2' => ∃ vv' LL', oo' = .returned vv' ∧ (Q_rm0 Z sl mx xa xb xc xd gC gF h0 n0) vv' U2'.heap LL' ∧ CHr Z own_EL s.vm s.heap U2'.vm U2'.heap ∧ ReturnedEndW s oo' U2' LL' room_1.cells room_1.slots) := by
  have wd := @own_wd _ _ hw
  have X0 : Stand p l e room_1 (s.setVm s.vm) m args below meth c T0 locs 0 0 := X0
  have hS : s.Since s.vm 0 := (State.WarmedH.refl s).since 0
  have hEL := own_EW hw
  have HC0 := CHr.refl hCH
  refine go_of (B := (T0.setTop (mkF m 16 #[.val (.int sl), .val (.int mx), .val (.int xa), .val (.int xb), .val (.int xc), .val (.int xd), .val (.int (4 : Int32)), .val (.int (own_cc xa)), .unset, .unset, .unset, .unset, .unset] [(.int xb)]))) (fun _ kk => XS.iloadN X0.here hx rfl (hb hby at_8) rfl (X0.ldcInt hx hown (mvT hZ (wd 0 rfl)) (g := (mkF m 9 #[.val (.int sl), .val (.int mx), .val (.int xa), .val (.int xb), .val (.int xc), .val (.int xd), .val (.int (4 : Int32)), .unset, .unset, .unset, .unset, .unset, .unset] [(.int xa)])) rfl (hb hby at_9) _ (XS.iand X0.here hx rfl (hb hby at_11) rfl (XS.i2c X0.here hx rfl (hb hby at_12) rfl (XS.istore X0.here hx rfl (hb hby at_13) rfl rfl (XS.iloadN X0.here hx rfl (hb hby at_15) rfl kk)))))) ?_
  refine go_of (B := (T0.setTop (mkF m 26 #[.val (.int sl), .val (.int mx), .val (.int xa), .val (.int xb), .val (.int xc), .val (.int xd), .val (.int (4 : Int32)), .val (.int (own_cc xa)), .val (.int (own_cc xb)), .unset, .unset, .unset, .unset] [(.int (65535 : Int32)), (.int xc)]))) (fun _ kk => X0.ldcInt hx hown (mvT hZ (wd 0 rfl)) (g := (mkF m 16 #[.val (.int sl), .val (.int mx), .val (.int xa), .val (.int xb), .val (.int xc), .val (.int xd), .val (.int (4 : Int32)), .val (.int (own_cc xa)), .unset, .unset, .unset, .unset, .unset] [(.int xb)])) rfl (hb hby at_16) _ (XS.iand X0.here hx rfl (hb hby at_18) rfl (XS.i2c X0.here hx rfl (hb hby at_19) rfl (XS.istore X0.here hx rfl (hb hby at_20) rfl rfl (XS.iload X0.here hx rfl (hb hby at_22) rfl (X0.ldcInt hx hown (mvT hZ (wd 0 rfl)) (g := (mkF m 24 #[.val (.int sl), .val (.int mx), .val (.int xa), .val (.int xb), .val (.int xc), .val (.int xd), .val (.int (4 : Int32)), .val (.int (own_cc xa)), .val (.int (own_cc xb)), .unset, .unset, .unset, .unset] [(.int xc)])) rfl (hb hby at_24) _ kk)))))) ?_
  refine go_of (B := (T0.setTop (mkF m 35 #[.val (.int sl), .val (.int mx), .val (.int xa), .val (.int xb), .val (.int xc), .val (.int xd), .val (.int (4 : Int32)), .val (.int (own_cc xa)), .val (.int (own_cc xb)), .val (.int (own_cc xc)), .unset, .unset, .unset] [(.int (xd &&& (65535 : Int32)))]))) (fun _ kk => XS.iand X0.here hx rfl (hb hby at_26) rfl (XS.i2c X0.here hx rfl (hb hby at_27) rfl (XS.istore X0.here hx rfl (hb hby at_28) rfl rfl (XS.iload X0.here hx rfl (hb hby at_30) rfl (X0.ldcInt hx hown (mvT hZ (wd 0 rfl)) (g := (mkF m 32 #[.val (.int sl), .val (.int mx), .val (.int xa), .val (.int xb), .val (.int xc), .val (.int xd), .val (.int (4 : Int32)), .val (.int (own_cc xa)), .val (.int (own_cc xb)), .val (.int (own_cc xc)), .unset, .unset, .unset] [(.int xd)])) rfl (hb hby at_32) _ (XS.iand X0.here hx rfl (hb hby at_34) rfl kk)))))) ?_
  refine go_of (B := (T0.setTop (mkF m 38 #[.val (.int sl), .val (.int mx), .val (.int xa), .val (.int xb), .val (.int xc), .val (.int xd), .val (.int (4 : Int32)), .val (.int (own_cc xa)), .val (.int (own_cc xb)), .val (.int (own_cc xc)), .val (.int (own_cc xd)), .unset, .unset] []))) (fun _ kk => XS.i2c X0.here hx rfl (hb hby at_35) rfl (XS.istore X0.here hx rfl (hb hby at_36) rfl rfl kk)) ?_
  obtain ⟨T58, h58, X58, e58, E58, A58, D58, -, st58⟩ := newO X0 hx hZ hown (wd 1 rfl) (wd 2 rfl) (wd 3 rfl) e0 (g := (mkF m 38 #[.val (.int sl), .val (.int mx), .val (.int xa), .val (.int xb), .val (.int xc), .val (.int xd), .val (.int (4 : Int32)), .val (.int (own_cc xa)), .val (.int (own_cc xb)), .val (.int (own_cc xc)), .val (.int (own_cc xd)), .unset, .unset] [])) rfl (hb hby at_38) (by decide) (by decide)
  obtain ⟨b58, g58⟩ : ∃ z, z = h0.size := ⟨_, rfl⟩
  rw [← g58] at A58 D58 st58
  have hi58 := own_nlt A58.lt
  have sz58 := E58.1
  have HC58 := HC0.trans (CHr.ext E58 HC0.1)
  have F58_value : Fld Z h58 b58 "java/lang/String" "value" "[B" .null := D58 (Or.inr (wd 21 rfl)) (ty := (.array .byte)) (by decide)
  have F58_coder : Fld Z h58 b58 "java/lang/String" "coder" "B" (.int (0 : Int32)) := D58 (Or.inr (wd 22 rfl)) (ty := .byte) (by decide)
  refine go_of (B := (T58.setTop (mkF m 41 #[.val (.int sl), .val (.int mx), .val (.int xa), .val (.int xb), .val (.int xc), .val (.int xd), .val (.int (4 : Int32)), .val (.int (own_cc xa)), .val (.int (own_cc xb)), .val (.int (own_cc xc)), .val (.int (own_cc xd)), .unset, .unset] [(.ref b58)]))) (st58) ?_
  refine go_of (B := (T58.setTop (mkF m 52 #[.val (.int sl), .val (.int mx), .val (.int xa), .val (.int xb), .val (.int xc), .val (.int xd), .val (.int (4 : Int32)), .val (.int (own_cc xa)), .val (.int (own_cc xb)), .val (.int (own_cc xc)), .val (.int (own_cc xd)), .unset, .unset] [(.int (own_cc xd)), (.int (own_cc xc)), (.int (own_cc xb)), (.int (own_cc xa)), (.int (4 : Int32)), (.ref b58), (.ref b58)]))) (fun _ kk => XS.dup X58.here hx rfl (hb hby at_41) rfl rfl (XS.iload X58.here hx rfl (hb hby at_42) rfl (XS.iload X58.here hx rfl (hb hby at_44) rfl (XS.iload X58.here hx rfl (hb hby at_46) rfl (XS.iload X58.here hx rfl (hb hby at_48) rfl (XS.iload X58.here hx rfl (hb hby at_50) rfl kk)))))) ?_
  obtain ⟨_, _, ⟨T59, L59, k59, n59⟩, -, X59, ⟨Lc59, hQ59, l59, y59, z59⟩, st59⟩ := Jvm.LawKit.callS X58 hx (y := MN1) hown (mvT hZ (wd 4 rfl)) (mvT hZ (wd 5 rfl)) (mvT hZ (wd 6 rfl)) (mvT hZ (wd 7 rfl)) (by decide) (backOf (W := 2) (bu_4 l Z a0 hw [] (own_cc xa) (own_cc xb) (own_cc xc) (own_cc xd) h58 n0 (by first | omega | exact own_ne (by omega) | exact own_le (by omega) | exact own_lt (by omega)) (own_ccr xa) (own_ccr xb) (own_ccr xc) (own_ccr xd)) hZ (wd 7 rfl) (wd 6 rfl) (by decide) (by decide)) (g := (mkF m 52 #[.val (.int sl), .val (.int mx), .val (.int xa), .val (.int xb), .val (.int xc), .val (.int xd), .val (.int (4 : Int32)), .val (.int (own_cc xa)), .val (.int (own_cc xb)), .val (.int (own_cc xc)), .val (.int (own_cc xd)), .unset, .unset] [(.int (own_cc xd)), (.int (own_cc xc)), (.int (own_cc xb)), (.int (own_cc xa)), (.int (4 : Int32)), (.ref b58), (.ref b58)])) rfl (by rw [hml]; rfl) (argsL := [(.int (4 : Int32)), (.int (own_cc xa)), (.int (own_cc xb)), (.int (own_cc xc)), (.int (own_cc xd))]) (rest := [(.ref b58), (.ref b58)]) (lenOf pd__ICCCC__C rfl) rfl (by show 2 * 0 + _ ≤ _; exact Nat.le_of_eq rfl) (hb hby at_52) (fun _ _ => ⟨rfl, e58, (by decide : 1 + 1 ≤ _), (by decide : 4 + 4 ≤ _)⟩)
  dsimp only [Pt.U, Pt.locs, Pt.cells, Pt.slots] at X59 l59 y59 z59 st59 hQ59
  subst l59 y59 z59
  obtain ⟨b59, k59, rfl, N59q, lo59, K59, V59⟩ := hQ59
  have lo59 := own_nle lo59
  have N59 := Fr.app N0 N59q
  have hi59 := own_nlt (V59.lt)
  have sz59 := K59.1
  have SK59 : ∀ x ∈ ([] : List Addr), Safe Z own_EL s.vm h58 x := all0
  have HC59 := HC58.trans (CHr.keep K59 SK59 HC58.1)
  refine go_of (B := (T59.setTop (mkF m 55 #[.val (.int sl), .val (.int mx), .val (.int xa), .val (.int xb), .val (.int xc), .val (.int xd), .val (.int (4 : Int32)), .val (.int (own_cc xa)), .val (.int (own_cc xb)), .val (.int (own_cc xc)), .val (.int (own_cc xd)), .unset, .unset] [(.ref b59), (.ref b58), (.ref b58)]))) (st59) ?_
  have cf_60 := (A58.keep K59)
  have cf_61 := (F58_value.keep K59 nin0)
  have sf_62 := (own_safe_null hZ.alike cf_60 cf_61 : (Safe Z own_EL _ T59.heap b58))
  have cf_63 := ((O.ext E58).keep K59 all0)
  have cf_64 := (F58_coder.keep K59 nin0)
  obtain ⟨_, _, ⟨T65, L65, k65, n65⟩, -, X65, ⟨Lc65, hQ65, l65, y65, z65⟩, st65⟩ := X59.specialBack hx (y := MN3) rfl hown (mvT hZ (wd 9 rfl)) (mvT hZ (wd 10 rfl)) (mvT hZ (wd 11 rfl)) (by decide) (backOf (W := 1) (u_i1_4 l Z a0 hw [] b58 b59 (own_cc xa) (own_cc xb) (own_cc xc) (own_cc xd) k59 gC _ _ T59.heap n0 (by first | omega | exact own_ne (by omega) | exact own_le (by omega) | exact own_lt (by omega)) cf_63 SC hgC SU cf_60 cf_61 cf_64 (by first | omega | exact own_ne (by omega) | exact own_le (by omega) | exact own_lt (by omega)) V59 (own_ccr xa) (own_ccr xb) (own_ccr xc) (own_ccr xd)) hZ (wd 11 rfl) (wd 3 rfl) (by decide) (by decide)) (g := (mkF m 55 #[.val (.int sl), .val (.int mx), .val (.int xa), .val (.int xb), .val (.int xc), .val (.int xd), .val (.int (4 : Int32)), .val (.int (own_cc xa)), .val (.int (own_cc xb)), .val (.int (own_cc xc)), .val (.int (own_cc xd)), .unset, .unset] [(.ref b59), (.ref b58), (.ref b58)])) rfl (by rw [hml]; rfl) (Steps.refl _) (a := b58) (argsL := [(.ref b59)]) (rest := [(.ref b58)]) (lenOf pd___C_V rfl) rfl (by show 2 * 0 + _ ≤ _; exact Nat.le_of_eq rfl) (hb hby at_55) (fun _ _ => ⟨rfl, rfl, (by decide : 2 + 2 ≤ _), (by decide : 8 + 12 ≤ _)⟩)
  dsimp only [Pt.U, Pt.locs, Pt.cells, Pt.slots] at X65 l65 y65 z65 st65 hQ65
  subst l65 y65 z65
  obtain ⟨rfl, N65q, K65, S65⟩ := hQ65
  have N65 := Fr.app N59 N65q
  have sz65 := K65.1
  have SK65 : ∀ x ∈ [b58], Safe Z own_EL _ T59.heap x := (allS sf_62 all0)
  have HC65 := HC59.trans (CHr.keep K65 SK65 HC59.1)
  refine go_tr (B := (T65.setTop (mkF m 58 #[.val (.int sl), .val (.int mx), .val (.int xa), .val (.int xb), .val (.int xc), .val (.int xd), .val (.int (4 : Int32)), .val (.int (own_cc xa)), .val (.int (own_cc xb)), .val (.int (own_cc xc)), .val (.int (own_cc xd)), .unset, .unset] [(.ref b58)]))) (st65) ?_
  refine go_of (B := (T65.setTop (mkF m 60 #[.val (.int sl), .val (.int mx), .val (.int xa), .val (.int xb), .val (.int xc), .val (.int xd), .val (.int (4 : Int32)), .val (.int (own_cc xa)), .val (.int (own_cc xb)), .val (.int (own_cc xc)), .val (.int (own_cc xd)), .val (.ref b58), .unset] []))) (fun _ kk => XS.astore X65.here hx rfl (hb hby at_58) rfl rfl rfl kk) ?_
  have HJ66 : ∀ (Tj66 : State) (Lj66 : List Loc), Stand p l e room_1 (s.setVm s.vm) m args below meth c Tj66 Lj66 4 20 → Tj66.heap = T65.heap → Fr n0 Lj66 → ∀ (xe : Int32), xe = own_nm 4 mx [(own_cc xa), (own_cc xb), (own_cc xc), (own_cc xd)] → Go p e below (Tj66.setTop (mkF m 135 #[.val (.int sl), .val (.int mx), .val (.int xa), .val (.int xb), .val (.int xc), .val (.int xd), .val (.int (4 : Int32)), .val (.int (own_cc xa)), .val (.int (own_cc xb)), .val (.int (own_cc xc)), .val (.int (own_cc xd)), .val (.ref b58), .val (.int xe)] [])) (fun oo' U2' => ∃ vv' LL', oo' = .returned vv' ∧ (Q_rm0 Z sl mx xa xb xc xd gC gF h0 n0) vv' U2'.heap LL' ∧ CHr Z own_EL s.vm s.heap U2'.vm U2'.heap ∧ ReturnedEndW s oo' U2' LL' room_1.cells room_1.slots) := by
    intro Tj66 Lj66 Xj66 ej66 Nj66 xe hjHJ66
    refine go_of (B := (Tj66.setTop (mkF m 138 #[.val (.int sl), .val (.int mx), .val (.int xa), .val (.int xb), .val (.int xc), .val (.int xd), .val (.int (4 : Int32)), .val (.int (own_cc xa)), .val (.int (own_cc xb)), .val (.int (own_cc xc)), .val (.int (own_cc xd)), .val (.ref b58), .val (.int xe)] [(.int mx), (.ref b58)]))) (fun _ kk => XS.aload Xj66.here hx rfl (hb hby at_135) rfl rfl (XS.iloadN Xj66.here hx rfl (hb hby at_137) rfl kk)) ?_
    have cf_67 := (cf_63.keep K65 (allS (by first | omega | exact own_ne (by omega) | exact own_le (by omega) | exact own_lt (by omega)) all0))
    obtain ⟨_, _, ⟨T68, L68, k68, n68⟩, -, X68, ⟨Lc68, hQ68, l68, y68, z68⟩, st68⟩ := Jvm.LawKit.callS Xj66 hx (y := MN0) hown (mvT hZ (wd 27 rfl)) (mvT hZ (wd 28 rfl)) (mvT hZ (wd 29 rfl)) (mvT hZ (wd 30 rfl)) (by decide) (backOf (W := 0) (nam_4 l Z a0 hw [] b58 mx (own_cc xa) (own_cc xb) (own_cc xc) (own_cc xd) gC gF T65.heap n0 (by first | omega | exact own_ne (by omega) | exact own_le (by omega) | exact own_lt (by omega)) cf_67 SC hgC S65 SU SF rgF) hZ (wd 30 rfl) (wd 29 rfl) (by decide) (by decide)) (g := (mkF m 138 #[.val (.int sl), .val (.int mx), .val (.int xa), .val (.int xb), .val (.int xc), .val (.int xd), .val (.int (4 : Int32)), .val (.int (own_cc xa)), .val (.int (own_cc xb)), .val (.int (own_cc xc)), .val (.int (own_cc xd)), .val (.ref b58), .val (.int xe)] [(.int mx), (.ref b58)])) rfl (by rw [hml]; rfl) (argsL := [(.ref b58), (.int mx)]) (rest := []) (lenOf pd__Ljava_lang_String_I_Z rfl) rfl (by show 2 * 0 + _ ≤ _; exact Nat.le_of_eq rfl) (hb hby at_138) (fun _ _ => ⟨rfl, ej66, (by decide : 4 + 0 ≤ _), (by decide : 20 + 0 ≤ _)⟩)
    dsimp only [Pt.U, Pt.locs, Pt.cells, Pt.slots] at X68 l68 y68 z68 st68 hQ68
    subst l68 y68 z68
    obtain ⟨rfl, N68q, e68⟩ := hQ68
    have N68 := Fr.app Nj66 N68q
    refine go_of (B := (T68.setTop (mkF m 141 #[.val (.int sl), .val (.int mx), .val (.int xa), .val (.int xb), .val (.int xc), .val (.int xd), .val (.int (4 : Int32)), .val (.int (own_cc xa)), .val (.int (own_cc xb)), .val (.int (own_cc xc)), .val (.int (own_cc xd)), .val (.ref b58), .val (.int xe)] [(.int (own_nm 4 mx [(own_cc xa), (own_cc xb), (own_cc xc), (own_cc xd)]))]))) (st68) ?_
    refine go_of (B := (T68.setTop (mkF m 151 #[.val (.int sl), .val (.int mx), .val (.int xa), .val (.int xb), .val (.int xc), .val (.int xd), .val (.int (4 : Int32)), .val (.int (own_cc xa)), .val (.int (own_cc xb)), .val (.int (own_cc xc)), .val (.int (own_cc xd)), .val (.ref b58), .val (.int xe)] [(.int (1 : Int32))]))) (fun _ kk => XS.iload X68.here hx rfl (hb hby at_141) rfl (XS.icmpNo X68.here hx rfl (hb hby at_143) rfl (teq hjHJ66.symm).2 (XS.iconst X68.here hx rfl (hb hby at_146) (XS.goto X68.here hx rfl (pc0 := 147) (pc' := 151) rfl (hb hby at_147) (by decide) (by decide) kk)))) ?_
    refine go_endH X68 hZ hEL HC65 hh0 e68 hS (by rw [e68]; omega) (v := some (.int (nar .boolean (1 : Int32)))) (fun h => by rw [hret] at h; cases h) hlk (by decide) (by decide) (Q := (Q_rm0 Z sl mx xa xb xc xd gC gF h0 n0)) ?_ (fun fs hr => retN X68 hx (t := .boolean) hret (by simp) (hb hby at_151) hr)
    unfold Q_rm0
    try rw [e68]
    exact ⟨rfl, N68⟩
  refine go_of (B := (T65.setTop (mkF m 69 #[.val (.int sl), .val (.int mx), .val (.int xa), .val (.int xb), .val (.int xc), .val (.int xd), .val (.int (4 : Int32)), .val (.int (own_cc xa)), .val (.int (own_cc xb)), .val (.int (own_cc xc)), .val (.int (own_cc xd)), .val (.ref b58), .unset] [(.int mx), (.int (4 : Int32))]))) (fun _ kk => XS.iload X65.here hx rfl (hb hby at_60) rfl (XS.iconst X65.here hx rfl (hb hby at_62) (XS.icmpNo X65.here hx rfl (hb hby at_63) rfl (flt (by decide : ¬ ((4 : Int32) < (1 : Int32)))).1 (XS.iload X65.here hx rfl (hb hby at_66) rfl (XS.iloadN X65.here hx rfl (hb hby at_68) rfl kk))))) ?_
  by_cases hcc69 : mx < (4 : Int32)
  · refine go_of (B := (T65.setTop (mkF m 135 #[.val (.int sl), .val (.int mx), .val (.int xa), .val (.int xb), .val (.int xc), .val (.int xd), .val (.int (4 : Int32)), .val (.int (own_cc xa)), .val (.int (own_cc xb)), .val (.int (own_cc xc)), .val (.int (own_cc xd)), .val (.ref b58), .val (.int (0 : Int32))] []))) (fun _ kk => XS.icmpYes X65.here hx rfl (pc0 := 69) (pc' := 132) rfl (hb hby at_69) rfl (tlt hcc69).2.2.1 (by decide) (by decide) (XS.iconst X65.here hx rfl (hb hby at_132) (XS.istore X65.here hx rfl (hb hby at_133) rfl rfl kk))) ?_
    exact HJ66 _ _ X65 rfl N65 (0 : Int32) (by simp [own_nm, hcc69])
  · refine go_of (B := (T65.setTop (mkF m 80 #[.val (.int sl), .val (.int mx), .val (.int xa), .val (.int xb), .val (.int xc), .val (.int xd), .val (.int (4 : Int32)), .val (.int (own_cc xa)), .val (.int (own_cc xb)), .val (.int (own_cc xc)), .val (.int (own_cc xd)), .val (.ref b58), .unset] [(.int (own_cc xa))]))) (fun _ kk => XS.icmpNo X65.here hx rfl (hb hby at_69) rfl (flt hcc69).2.2.1 (XS.iload X65.here hx rfl (hb hby at_72) rfl (XS.iconst X65.here hx rfl (hb hby at_74) (XS.icmpNo X65.here hx rfl (hb hby at_75) rfl (flt (by decide : ¬ ((4 : Int32) < (1 : Int32)))).1 (XS.iload X65.here hx rfl (hb hby at_78) rfl kk))))) ?_
    obtain ⟨_, _, ⟨T70, L70, k70, n70⟩, -, X70, ⟨Lc70, hQ70, l70, y70, z70⟩, st70⟩ := Jvm.LawKit.callS X65 hx (y := MN2) hown (mvT hZ (wd 47 rfl)) (mvT hZ (wd 48 rfl)) (mvT hZ (wd 6 rfl)) (mvT hZ (wd 49 rfl)) (by decide) (backOf (W := 0) (okc l Z a0 hw [] (own_cc xa) T65.heap n0 (by first | omega | exact own_ne (by omega) | exact own_le (by omega) | exact own_lt (by omega))) hZ (wd 49 rfl) (wd 6 rfl) (by decide) (by decide)) (g := (mkF m 80 #[.val (.int sl), .val (.int mx), .val (.int xa), .val (.int xb), .val (.int xc), .val (.int xd), .val (.int (4 : Int32)), .val (.int (own_cc xa)), .val (.int (own_cc xb)), .val (.int (own_cc xc)), .val (.int (own_cc xd)), .val (.ref b58), .unset] [(.int (own_cc xa))])) rfl (by rw [hml]; rfl) (argsL := [(.int (own_cc xa))]) (rest := []) (lenOf pd__C_Z rfl) rfl (by show 2 * 0 + _ ≤ _; exact Nat.le_of_eq rfl) (hb hby at_80) (fun _ _ => ⟨rfl, rfl, (by decide : 4 + 0 ≤ _), (by decide : 20 + 0 ≤ _)⟩)
    dsimp only [Pt.U, Pt.locs, Pt.cells, Pt.slots] at X70 l70 y70 z70 st70 hQ70
    subst l70 y70 z70
    obtain ⟨rfl, N70q, e70⟩ := hQ70
    have N70 := Fr.app N65 N70q
    refine go_of (B := (T70.setTop (mkF m 83 #[.val (.int sl), .val (.int mx), .val (.int xa), .val (.int xb), .val (.int xc), .val (.int xd), .val (.int (4 : Int32)), .val (.int (own_cc xa)), .val (.int (own_cc xb)), .val (.int (own_cc xc)), .val (.int (own_cc xd)), .val (.ref b58), .unset] [(.int (own_oki (own_cc xa)))]))) (st70) ?_
    by_cases hcc71 : (own_oki (own_cc xa)) = (0 : Int32)
    · refine go_of (B := (T70.setTop (mkF m 135 #[.val (.int sl), .val (.int mx), .val (.int xa), .val (.int xb), .val (.int xc), .val (.int xd), .val (.int (4 : Int32)), .val (.int (own_cc xa)), .val (.int (own_cc xb)), .val (.int (own_cc xc)), .val (.int (own_cc xd)), .val (.ref b58), .val (.int (0 : Int32))] []))) (fun _ kk => XS.ifYes X70.here hx rfl (pc0 := 83) (pc' := 132) rfl (hb hby at_83) rfl ((if0 _ _).trans (teq hcc71).1) (by decide) (by decide) (XS.iconst X70.here hx rfl (hb hby at_132) (XS.istore X70.here hx rfl (hb hby at_133) rfl rfl kk))) ?_
      exact HJ66 _ _ X70 e70 N70 (0 : Int32) (by rw [own_okk] at hcc71; simp [own_nm, hcc69, hcc71])
    · refine go_of (B := (T70.setTop (mkF m 94 #[.val (.int sl), .val (.int mx), .val (.int xa), .val (.int xb), .val (.int xc), .val (.int xd), .val (.int (4 : Int32)), .val (.int (own_cc xa)), .val (.int (own_cc xb)), .val (.int (own_cc xc)), .val (.int (own_cc xd)), .val (.ref b58), .unset] [(.int (own_cc xb))]))) (fun _ kk => XS.ifNo X70.here hx rfl (hb hby at_83) rfl ((if0 _ _).trans (feq hcc71).1) (XS.iload X70.here hx rfl (hb hby at_86) rfl (XS.iconst X70.here hx rfl (hb hby at_88) (XS.icmpNo X70.here hx rfl (hb hby at_89) rfl (flt (by decide : ¬ ((4 : Int32) < (2 : Int32)))).1 (XS.iload X70.here hx rfl (hb hby at_92) rfl kk))))) ?_
      obtain ⟨_, _, ⟨T72, L72, k72, n72⟩, -, X72, ⟨Lc72, hQ72, l72, y72, z72⟩, st72⟩ := Jvm.LawKit.callS X70 hx (y := MN2) hown (mvT hZ (wd 47 rfl)) (mvT hZ (wd 48 rfl)) (mvT hZ (wd 6 rfl)) (mvT hZ (wd 49 rfl)) (by decide) (backOf (W := 0) (okc l Z a0 hw [] (own_cc xb) T65.heap n0 (by first | omega | exact own_ne (by omega) | exact own_le (by omega) | exact own_lt (by omega))) hZ (wd 49 rfl) (wd 6 rfl) (by decide) (by decide)) (g := (mkF m 94 #[.val (.int sl), .val (.int mx), .val (.int xa), .val (.int xb), .val (.int xc), .val (.int xd), .val (.int (4 : Int32)), .val (.int (own_cc xa)), .val (.int (own_cc xb)), .val (.int (own_cc xc)), .val (.int (own_cc xd)), .val (.ref b58), .unset] [(.int (own_cc xb))])) rfl (by rw [hml]; rfl) (argsL := [(.int (own_cc xb))]) (rest := []) (lenOf pd__C_Z rfl) rfl (by show 2 * 0 + _ ≤ _; exact Nat.le_of_eq rfl) (hb hby at_94) (fun _ _ => ⟨rfl, e70, (by decide : 4 + 0 ≤ _), (by decide : 20 + 0 ≤ _)⟩)
      dsimp only [Pt.U, Pt.locs, Pt.cells, Pt.slots] at X72 l72 y72 z72 st72 hQ72
      subst l72 y72 z72
      obtain ⟨rfl, N72q, e72⟩ := hQ72
      have N72 := Fr.app N70 N72q
      refine go_of (B := (T72.setTop (mkF m 97 #[.val (.int sl), .val (.int mx), .val (.int xa), .val (.int xb), .val (.int xc), .val (.int xd), .val (.int (4 : Int32)), .val (.int (own_cc xa)), .val (.int (own_cc xb)), .val (.int (own_cc xc)), .val (.int (own_cc xd)), .val (.ref b58), .unset] [(.int (own_oki (own_cc xb)))]))) (st72) ?_
      by_cases hcc73 : (own_oki (own_cc xb)) = (0 : Int32)
      · refine go_of (B := (T72.setTop (mkF m 135 #[.val (.int sl), .val (.int mx), .val (.int xa), .val (.int xb), .val (.int xc), .val (.int xd), .val (.int (4 : Int32)), .val (.int (own_cc xa)), .val (.int (own_cc xb)), .val (.int (own_cc xc)), .val (.int (own_cc xd)), .val (.ref b58), .val (.int (0 : Int32))] []))) (fun _ kk => XS.ifYes X72.here hx rfl (pc0 := 97) (pc' := 132) rfl (hb hby at_97) rfl ((if0 _ _).trans (teq hcc73).1) (by decide) (by decide) (XS.iconst X72.here hx rfl (hb hby at_132) (XS.istore X72.here hx rfl (hb hby at_133) rfl rfl kk))) ?_
        exact HJ66 _ _ X72 e72 N72 (0 : Int32) (by rw [own_okk] at hcc71; rw [own_okk] at hcc73; simp [own_nm, hcc69, hcc71, hcc73])
      · refine go_of (B := (T72.setTop (mkF m 108 #[.val (.int sl), .val (.int mx), .val (.int xa), .val (.int xb), .val (.int xc), .val (.int xd), .val (.int (4 : Int32)), .val (.int (own_cc xa)), .val (.int (own_cc xb)), .val (.int (own_cc xc)), .val (.int (own_cc xd)), .val (.ref b58), .unset] [(.int (own_cc xc))]))) (fun _ kk => XS.ifNo X72.here hx rfl (hb hby at_97) rfl ((if0 _ _).trans (feq hcc73).1) (XS.iload X72.here hx rfl (hb hby at_100) rfl (XS.iconst X72.here hx rfl (hb hby at_102) (XS.icmpNo X72.here hx rfl (hb hby at_103) rfl (flt (by decide : ¬ ((4 : Int32) < (3 : Int32)))).1 (XS.iload X72.here hx rfl (hb hby at_106) rfl kk))))) ?_
        obtain ⟨_, _, ⟨T74, L74, k74, n74⟩, -, X74, ⟨Lc74, hQ74, l74, y74, z74⟩, st74⟩ := Jvm.LawKit.callS X72 hx (y := MN2) hown (mvT hZ (wd 47 rfl)) (mvT hZ (wd 48 rfl)) (mvT hZ (wd 6 rfl)) (mvT hZ (wd 49 rfl)) (by decide) (backOf (W := 0) (okc l Z a0 hw [] (own_cc xc) T65.heap n0 (by first | omega | exact own_ne (by omega) | exact own_le (by omega) | exact own_lt (by omega))) hZ (wd 49 rfl) (wd 6 rfl) (by decide) (by decide)) (g := (mkF m 108 #[.val (.int sl), .val (.int mx), .val (.int xa), .val (.int xb), .val (.int xc), .val (.int xd), .val (.int (4 : Int32)), .val (.int (own_cc xa)), .val (.int (own_cc xb)), .val (.int (own_cc xc)), .val (.int (own_cc xd)), .val (.ref b58), .unset] [(.int (own_cc xc))])) rfl (by rw [hml]; rfl) (argsL := [(.int (own_cc xc))]) (rest := []) (lenOf pd__C_Z rfl) rfl (by show 2 * 0 + _ ≤ _; exact Nat.le_of_eq rfl) (hb hby at_108) (fun _ _ => ⟨rfl, e72, (by decide : 4 + 0 ≤ _), (by decide : 20 + 0 ≤ _)⟩)
        dsimp only [Pt.U, Pt.locs, Pt.cells, Pt.slots] at X74 l74 y74 z74 st74 hQ74
        subst l74 y74 z74
        obtain ⟨rfl, N74q, e74⟩ := hQ74
        have N74 := Fr.app N72 N74q
        refine go_of (B := (T74.setTop (mkF m 111 #[.val (.int sl), .val (.int mx), .val (.int xa), .val (.int xb), .val (.int xc), .val (.int xd), .val (.int (4 : Int32)), .val (.int (own_cc xa)), .val (.int (own_cc xb)), .val (.int (own_cc xc)), .val (.int (own_cc xd)), .val (.ref b58), .unset] [(.int (own_oki (own_cc xc)))]))) (st74) ?_
        by_cases hcc75 : (own_oki (own_cc xc)) = (0 : Int32)
        · refine go_of (B := (T74.setTop (mkF m 135 #[.val (.int sl), .val (.int mx), .val (.int xa), .val (.int xb), .val (.int xc), .val (.int xd), .val (.int (4 : Int32)), .val (.int (own_cc xa)), .val (.int (own_cc xb)), .val (.int (own_cc xc)), .val (.int (own_cc xd)), .val (.ref b58), .val (.int (0 : Int32))] []))) (fun _ kk => XS.ifYes X74.here hx rfl (pc0 := 111) (pc' := 132) rfl (hb hby at_111) rfl ((if0 _ _).trans (teq hcc75).1) (by decide) (by decide) (XS.iconst X74.here hx rfl (hb hby at_132) (XS.istore X74.here hx rfl (hb hby at_133) rfl rfl kk))) ?_
          exact HJ66 _ _ X74 e74 N74 (0 : Int32) (by rw [own_okk] at hcc71; rw [own_okk] at hcc73; rw [own_okk] at hcc75; simp [own_nm, hcc69, hcc71, hcc73, hcc75])
        · refine go_of (B := (T74.setTop (mkF m 122 #[.val (.int sl), .val (.int mx), .val (.int xa), .val (.int xb), .val (.int xc), .val (.int xd), .val (.int (4 : Int32)), .val (.int (own_cc xa)), .val (.int (own_cc xb)), .val (.int (own_cc xc)), .val (.int (own_cc xd)), .val (.ref b58), .unset] [(.int (own_cc xd))]))) (fun _ kk => XS.ifNo X74.here hx rfl (hb hby at_111) rfl ((if0 _ _).trans (feq hcc75).1) (XS.iload X74.here hx rfl (hb hby at_114) rfl (XS.iconst X74.here hx rfl (hb hby at_116) (XS.icmpNo X74.here hx rfl (hb hby at_117) rfl (flt (by decide : ¬ ((4 : Int32) < (4 : Int32)))).1 (XS.iload X74.here hx rfl (hb hby at_120) rfl kk))))) ?_
          obtain ⟨_, _, ⟨T76, L76, k76, n76⟩, -, X76, ⟨Lc76, hQ76, l76, y76, z76⟩, st76⟩ := Jvm.LawKit.callS X74 hx (y := MN2) hown (mvT hZ (wd 47 rfl)) (mvT hZ (wd 48 rfl)) (mvT hZ (wd 6 rfl)) (mvT hZ (wd 49 rfl)) (by decide) (backOf (W := 0) (okc l Z a0 hw [] (own_cc xd) T65.heap n0 (by first | omega | exact own_ne (by omega) | exact own_le (by omega) | exact own_lt (by omega))) hZ (wd 49 rfl) (wd 6 rfl) (by decide) (by decide)) (g := (mkF m 122 #[.val (.int sl), .val (.int mx), .val (.int xa), .val (.int xb), .val (.int xc), .val (.int xd), .val (.int (4 : Int32)), .val (.int (own_cc xa)), .val (.int (own_cc xb)), .val (.int (own_cc xc)), .val (.int (own_cc xd)), .val (.ref b58), .unset] [(.int (own_cc xd))])) rfl (by rw [hml]; rfl) (argsL := [(.int (own_cc xd))]) (rest := []) (lenOf pd__C_Z rfl) rfl (by show 2 * 0 + _ ≤ _; exact Nat.le_of_eq rfl) (hb hby at_122) (fun _ _ => ⟨rfl, e74, (by decide : 4 + 0 ≤ _), (by decide : 20 + 0 ≤ _)⟩)
          dsimp only [Pt.U, Pt.locs, Pt.cells, Pt.slots] at X76 l76 y76 z76 st76 hQ76
          subst l76 y76 z76
          obtain ⟨rfl, N76q, e76⟩ := hQ76
          have N76 := Fr.app N74 N76q
          refine go_of (B := (T76.setTop (mkF m 125 #[.val (.int sl), .val (.int mx), .val (.int xa), .val (.int xb), .val (.int xc), .val (.int xd), .val (.int (4 : Int32)), .val (.int (own_cc xa)), .val (.int (own_cc xb)), .val (.int (own_cc xc)), .val (.int (own_cc xd)), .val (.ref b58), .unset] [(.int (own_oki (own_cc xd)))]))) (st76) ?_
          by_cases hcc77 : (own_oki (own_cc xd)) = (0 : Int32)
          · refine go_of (B := (T76.setTop (mkF m 135 #[.val (.int sl), .val (.int mx), .val (.int xa), .val (.int xb), .val (.int xc), .val (.int xd), .val (.int (4 : Int32)), .val (.int (own_cc xa)), .val (.int (own_cc xb)), .val (.int (own_cc xc)), .val (.int (own_cc xd)), .val (.ref b58), .val (.int (0 : Int32))] []))) (fun _ kk => XS.ifYes X76.here hx rfl (pc0 := 125) (pc' := 132) rfl (hb hby at_125) rfl ((if0 _ _).trans (teq hcc77).1) (by decide) (by decide) (XS.iconst X76.here hx rfl (hb hby at_132) (XS.istore X76.here hx rfl (hb hby at_133) rfl rfl kk))) ?_
            exact HJ66 _ _ X76 e76 N76 (0 : Int32) (by rw [own_okk] at hcc71; rw [own_okk] at hcc73; rw [own_okk] at hcc75; rw [own_okk] at hcc77; simp [own_nm, hcc69, hcc71, hcc73, hcc75, hcc77])
          · refine go_of (B := (T76.setTop (mkF m 135 #[.val (.int sl), .val (.int mx), .val (.int xa), .val (.int xb), .val (.int xc), .val (.int xd), .val (.int (4 : Int32)), .val (.int (own_cc xa)), .val (.int (own_cc xb)), .val (.int (own_cc xc)), .val (.int (own_cc xd)), .val (.ref b58), .val (.int (1 : Int32))] []))) (fun _ kk => XS.ifNo X76.here hx rfl (hb hby at_125) rfl ((if0 _ _).trans (feq hcc77).1) (XS.iconst X76.here hx rfl (hb hby at_128) (XS.goto X76.here hx rfl (pc0 := 129) (pc' := 133) rfl (hb hby at_129) (by decide) (by decide) (XS.istore X76.here hx rfl (hb hby at_133) rfl rfl kk)))) ?_
            exact HJ66 _ _ X76 e76 N76 (1 : Int32) (by rw [own_okk] at hcc71; rw [own_okk] at hcc73; rw [own_okk] at hcc75; rw [own_okk] at hcc77; simp [own_nm, hcc69, hcc71, hcc73, hcc75, hcc77])
theorem ef_rm0 (m : MethodId) (sl : Int32) (mx : Int32) (xa : Int32) (xb : Int32) (xc : Int32) (xd : Int32)  : entryFrame m #[(.int sl), (.int mx), (.int xa), (.int xb), (.int xc), (.int xd)] maxLocals = mkF m 0 #[.val (.int sl), .val (.int mx), .val (.int xa), .val (.int xb), .val (.int xc), .val (.int xd), .unset, .unset, .unset, .unset, .unset, .unset, .unset] [] := by first | (simp [entryFrame, mkF, argsToLocals, Value.category, maxLocals]; done) | rfl
theorem rm0 (l : Launch) (Z : State) (a0 : Array Value) (hw : TW a0 Z) (ws : List Jvm.Cond) (sl : Int32) (mx : Int32) (xa : Int32) (xb : Int32) (xc : Int32) (xd : Int32) (gC : Int32) (gF : Value) (h0 : Heap) (n0 : Nat) (Z0 : n0 ≤ h0.size) (O : Old Z n0 h0) (SC : Sta Z Z.heap "java/lang/String" "COMPACT_STRINGS" "Z" (.int gC)) (hgC : ¬ gC = (0 : Int32)) (SU : US Z) (SF : Sta Z Z.heap "jdk/internal/util/Preconditions" "SIOOBE_FORMATTER" "Ljava/util/function/BiFunction;" gF) (rgF : gF.isRef = true) :
    own_MFH l Z x code maxLocals ret ws room_1 #[(.int sl), (.int mx), (.int xa), (.int xb), (.int xc), (.int xd)] h0 (Q_rm0 Z sl mx xa xb xc xd gC gF h0 n0) := by
  have wd := @own_wd _ _ hw
  refine MetFree.of_bodySF (plainFor_of_name pn_com_example_libpubid_libpubid_store_NamesIsNamePinLaw) hisR ?_
  intro p e s m args below meth c s₁ Bd hml0 hP hK
  obtain ⟨rfl, hZ, hh, hCH⟩ := hP
  have hx := Bd.exec
  have hby := Bd.bytes
  have hml : c.maxLocals = 13 := hml0
  have hown : s.vm.findClass "com/example/libpubid/libpubid/store/NamesIsNamePinLaw" = some m.cls := findClass_of_methodNamed Bd.named
  have hnm := (name_of_methodNamed Bd.named Bd.method).1
  have X0 : Stand p l e room_1 (s.setVm s.vm) m #[(.int sl), (.int mx), (.int xa), (.int xb), (.int xc), (.int xd)] below meth c s₁ [] 0 0 := Stand.of_body Bd
  have e0 : s₁.heap = h0 := by rw [← hh, Bd.state]; rfl
  have N0 := Fr.nil n0
  have hS : s.Since s.vm 0 := (State.WarmedH.refl s).since 0
  have hh0 := hh
  have hEL := own_EW hw
  have HC0 := CHr.refl hCH
  refine go_of (A := s₁.setTop (entryFrame m #[(.int sl), (.int mx), (.int xa), (.int xb), (.int xc), (.int xd)] maxLocals)) (B := s₁.setTop (mkF m 0 #[.val (.int sl), .val (.int mx), .val (.int xa), .val (.int xb), .val (.int xc), .val (.int xd), .unset, .unset, .unset, .unset, .unset, .unset, .unset] [])) (fun _ kk' => castTop (ef_rm0 m sl mx xa xb xc xd) kk') ?_
  refine go_of (B := (s₁.setTop (mkF m 8 #[.val (.int sl), .val (.int mx), .val (.int xa), .val (.int xb), .val (.int xc), .val (.int xd), .val (.int ((sl &&& (7 : Int32)) % (5 : Int32))), .unset, .unset, .unset, .unset, .unset, .unset] []))) (fun _ kk => XS.iloadN X0.here hx rfl (hb hby at_0) rfl (XS.bipush X0.here hx rfl (hb hby at_1) (XS.iand X0.here hx rfl (hb hby at_3) rfl (XS.iconst X0.here hx rfl (hb hby at_4) (iremM X0 hx rfl (hb hby at_5) rfl (by decide) (XS.istore X0.here hx rfl (hb hby at_6) rfl rfl kk)))))) ?_
  rcases own_n85 sl with hn | hn | hn | hn | hn
  · rw [hn]
    exact lw0 sl mx xa xb xc xd gC gF X0 hx hZ hw hby hml hown Bd.returns Bd.notSynchronized e0 N0 (by first | omega | exact own_ne (by omega) | exact own_le (by omega) | exact own_lt (by omega)) O SC hgC SU SF rgF hh0 hCH
  · rw [hn]
    exact lw1 sl mx xa xb xc xd gC gF X0 hx hZ hw hby hml hown Bd.returns Bd.notSynchronized e0 N0 (by first | omega | exact own_ne (by omega) | exact own_le (by omega) | exact own_lt (by omega)) O SC hgC SU SF rgF hh0 hCH
  · rw [hn]
    exact lw2 sl mx xa xb xc xd gC gF X0 hx hZ hw hby hml hown Bd.returns Bd.notSynchronized e0 N0 (by first | omega | exact own_ne (by omega) | exact own_le (by omega) | exact own_lt (by omega)) O SC hgC SU SF rgF hh0 hCH
  · rw [hn]
    exact lw3 sl mx xa xb xc xd gC gF X0 hx hZ hw hby hml hown Bd.returns Bd.notSynchronized e0 N0 (by first | omega | exact own_ne (by omega) | exact own_le (by omega) | exact own_lt (by omega)) O SC hgC SU SF rgF hh0 hCH
  · rw [hn]
    exact lw4 sl mx xa xb xc xd gC gF X0 hx hZ hw hby hml hown Bd.returns Bd.notSynchronized e0 N0 (by first | omega | exact own_ne (by omega) | exact own_le (by omega) | exact own_lt (by omega)) O SC hgC SU SF rgF hh0 hCH
theorem own_ne0 {t : Term} {g : Int32} {args : Array Value} {s : State} (ev : t.eval args s none [] s = some (.int g)) (h : (Jvm.Cond.not (.eq t (.int 0))).value args s none s [] = some true) : ¬ g = (0 : Int32) := by
  have h1 := not_v h
  intro q; subst q
  simp [Cond.value, ev, Term.int_eval] at h1
theorem own_eqI {t : Term} {k : Int32} {args : Array Value} {s : State} (h : (Jvm.Cond.eq t (.int k)).value args s none s [] = some true) : t.eval args s none [] s = some (.int k) := by
  obtain ⟨x, y, h1, h2, -, kyx⟩ := cmp_v (Or.inl h)
  have e2 : y = .int k := (Option.some.inj (h2.symm.trans (Term.int_eval k)))
  subst e2
  obtain ⟨z, rfl⟩ := kyx
  have hz : z = k := by simpa [Cond.value, h1, Term.int_eval] using h
  subst hz
  exact h1
theorem comes_1 {Post : Tables → Env → Array Value → State → Outcome → State → Prop} (hpost : ∀ tb e args s v u, (limb_1_1.after args s (.returned v) u = true ∧ limb_1_2.after args s (.returned v) u = true ∧ True) → ReturnedEndW s (.returned v) u (Jvm.fieldLocs frame_1_writes args s ++ Jvm.arrayLocs frame_1_arrays args s ++ Jvm.staticLocs frame_1_statics s) 24 1152 → Post tb e args s (.returned v) u) :
    ArmFor flags0 classFile x code maxLocals ret World_1 tables_1 room_1 Calls_1 rest_1 Pre_1 Post := by
  intro l hfl _ _ p e ha hc hk s m args below hf hA hF happ hP
  obtain ⟨hcalls, hrest, hpre⟩ := hP
  obtain ⟨-, -, -, hnamed, -, -, -, hat⟩ := (Spec.applies_iff hf).mp happ
  obtain ⟨hg, hn⟩ := and_e (Cond.before_iff.mp (show (Jvm.Cond.and given_1 narrow_1).before args s = true from hpre))
  obtain ⟨g1, g2⟩ := and_e hg
  obtain ⟨g3, g4⟩ := and_e g2
  obtain ⟨g5, g6⟩ := and_e g4
  obtain ⟨g7, g8⟩ := and_e g6
  obtain ⟨g9, g10⟩ := and_e g8
  obtain ⟨g11, g12⟩ := and_e g10
  obtain ⟨w0, w1, w2, w3, w4, w5, rfl⟩ : ∃ w0 w1 w2 w3 w4 w5 : Value, args = #[w0, w1, w2, w3, w4, w5] := by
    have hs : args.size = 6 := by simpa [Cond.value, given_1] using g1
    obtain ⟨L⟩ := args
    match L, hs with
    | [w0, w1, w2, w3, w4, w5], _ => exact ⟨w0, w1, w2, w3, w4, w5, rfl⟩
  have hw := fun d (hd : d ∈ tables_1) => atoms_spec (ws := Jvm.Cond.code x code maxLocals ret :: tables_1) hat d (List.mem_cons_of_mem _ hd)
  have wd := @own_wd _ _ hw
  have hfit : Fit s := fun {y c} hc i hi => by
    obtain ⟨ha, rfl⟩ := Array.getElem?_eq_some_iff.mp hc
    have q := List.all_eq_true.mp ((Array.all_eq_true_iff_forall_mem.mp hF) _ (Array.getElem_mem ha)) i (List.mem_range.mpr hi)
    simpa [Array.getElem?_eq_getElem hi] using q
  obtain ⟨hsets, hown0⟩ := atoms_of _ (rest_1_c_eq ▸ (show rest_1_c.before _ s = true from hrest))
  have hr0 := Cond.before_iff.mp hown0
  obtain ⟨i0, ei0⟩ := is_v g3
  obtain rfl : w0 = (.int i0) := Option.some.inj ei0
  obtain ⟨i1, ei1⟩ := is_v g5
  obtain rfl : w1 = (.int i1) := Option.some.inj ei1
  obtain ⟨i2, ei2⟩ := is_v g7
  obtain rfl : w2 = (.int i2) := Option.some.inj ei2
  obtain ⟨i3, ei3⟩ := is_v g9
  obtain rfl : w3 = (.int i3) := Option.some.inj ei3
  obtain ⟨i4, ei4⟩ := is_v g11
  obtain rfl : w4 = (.int i4) := Option.some.inj ei4
  obtain ⟨i5, ei5⟩ := is_v g12
  obtain rfl : w5 = (.int i5) := Option.some.inj ei5
  obtain ⟨gC, evC⟩ := is_v (Cond.before_iff.mp (hsets _ (List.mem_of_getElem? (i := 1) rfl)))
  have SC := Sta.start evC (Or.inl (hsets _ (List.mem_of_getElem? (i := 0) rfl)))
  have hgC : ¬ gC = (0 : Int32) := own_ne0 evC (Cond.before_iff.mp (hsets _ (List.mem_of_getElem? (i := 2) rfl)))
  obtain ⟨gF, evF, rgF⟩ := isR_v (Cond.before_iff.mp (hsets _ (List.mem_of_getElem? (i := 8) rfl)))
  have SF := Sta.start evF (Or.inl (hsets _ (List.mem_of_getElem? (i := 7) rfl)))
  have SU : US s := ⟨Sta.start (own_eqI (Cond.before_iff.mp (hsets _ (List.mem_of_getElem? (i := 12) rfl)))) (Or.inl (hsets _ (List.mem_of_getElem? (i := 11) rfl))), Sta.start (own_eqI (Cond.before_iff.mp (hsets _ (List.mem_of_getElem? (i := 15) rfl)))) (Or.inl (hsets _ (List.mem_of_getElem? (i := 14) rfl))), Sta.start (own_eqI (Cond.before_iff.mp (hsets _ (List.mem_of_getElem? (i := 18) rfl)))) (Or.inl (hsets _ (List.mem_of_getElem? (i := 17) rfl)))⟩
  have hHeld : ∀ p ∈ own_EL, Jvm.Lit.constHeld s p.1 p.2 := by
    intro p hp
    simp only [own_EL, List.mem_cons, List.not_mem_nil, or_false] at hp
    rcases hp with rfl
    · exact hcalls.1 _ (List.mem_of_getElem? (i := 0) rfl)
  have hCH := CHv.start (own_EW hw) hHeld (hsets _ (List.mem_of_getElem? (i := 2) rfl)) (wd 20 rfl) (wd 2 rfl)
  obtain ⟨n, o, h1, h2, h3, _, L, rfl, ⟨rfl, N⟩, -, hq⟩ := rm0 l s _ hw tables_1 i0 i1 i2 i3 i4 i5 gC gF s.heap s.heap.size (Nat.le_refl _) (Old.start s) SC hgC SU SF rgF p e ha hc hk s m _ below hf ((Spec.applies_iff_loose hf).mp happ).1 ⟨rfl, State.Warmed39.refl s, rfl, hCH⟩ trivial
  exact ⟨n, _, h1, h2, h3, hpost _ _ _ _ _ _ ⟨Cond.after_iff.mpr rfl, Cond.after_iff.mpr (eq_i res_at (Term.int_eval (1)) rfl), trivial⟩ ⟨hq.1, hq.2.1, hq.2.2.1, (hq.2.2.2.sift fun y hy => Or.inr (N y hy)).mono (by decide) (by decide)⟩⟩
theorem main_1_1 : Claimed_1_1 := comes_1 fun _ _ _ _ _ _ h hF => ⟨h.1, hF⟩
theorem main_1_2 : Claimed_1_2 := comes_1 fun _ _ _ _ _ _ h hF => ⟨h.2.1, hF⟩
end Jvm.Pilot.@@N@@
namespace Jvm.Pilot.@@N@@
open Jvm Jvm.ClassFile Sem Op Lib Jvm.Free Jvm.Stand Jvm.Pilot.@@N@@.Jvm.D
/-! MADE BY PROGRAM (witnessworld.py) out of the Statement's table words and the real class files: 20 classes; the members and pool entries that the words name. The judged class is class 1, her method 3. -/
namespace start1
open Jvm.ClassFile
def u (s : String) : CpInfo := .utf8 (stringToUtf16 s)
/-- a pool by its gaps: so many unusable entries, then the entry; so many at the end -/
def gap : Nat → List CpInfo → List CpInfo
  | 0, r => r
  | n + 1, r => .unusable :: gap n r
def poolList (es : List (Nat × CpInfo)) (last : Nat) : List CpInfo := es.foldr (fun e r => gap e.1 (e.2 :: r)) (gap last [])
def pool (es : List (Nat × CpInfo)) (last : Nat) : Array CpInfo := ⟨poolList es last⟩
def fileOf (pool : Array CpInfo) (this : Nat) (attrs : Array Attribute := #[]) (ms : Array MethodInfo := #[]) (fl : Nat := 33) (sup : Nat := 0) (ifs : Array Nat := #[]) (fds : Array FieldInfo := #[]) : ClassFile where
  minorVersion := 0
  majorVersion := 65
  constantPool := pool
  accessFlags := fl
  thisClass := this
  superClass := sup
  interfaces := ifs
  fields := fds
  methods := ms
  attributes := attrs
def plain (name : String) (sup : Option ClassId) : Class where
  name := name
  kind := .ordinary
  loader := none
  accessFlags := 33
  super := sup
  interfaces := #[]
  cf := none
  fields := #[]
  methods := #[]
  instanceTypes := #[]
  staticTypes := #[]
  resolved := #[]
  callSites := []
  init := .initialized
  statics := none
  mirror := none

def pool0 : Array CpInfo := pool [(5, u "<init>"), (0, u "()V"), (1, .class_ 10), (1, u "java/lang/Object")] 113

def k0c0 : Code := { maxStack := 0, maxLocals := 1, code := object_method_1_code, exceptionTable := #[], attributes := #[] }
def k0m0 : Method := { name := "<init>", desc := "()V", sig := { parameters := [], returnType := none }, accessFlags := 1, code := some k0c0 }
/-- java/lang/Object -/
def k0 : Class := { plain "java/lang/Object" none with
  accessFlags := 33
  interfaces := #[]
  cf := some (fileOf pool0 8 #[] #[{ accessFlags := 1, nameIndex := 5, descriptorIndex := 6, attributes := #[] }] 33 0 #[] #[])
  fields := #[]
  methods := #[k0m0]
  instanceTypes := #[]
  staticTypes := #[]
  resolved := Array.replicate 124 none
  statics := none }

def pool1 : Array CpInfo := pool [(2, .class_ 4), (1, u "java/lang/Object"), (0, u "<init>"), (0, u "()V"), (0, .integer 65535), (0, .class_ 9), (0, u "java/lang/String"), (0, .methodref 11 12), (0, .class_ 13), (0, .nameAndType 14 15), (0, u "com/example/libpubid/libpubid/store/NamesIsNamePinLaw"), (0, u "build"), (0, u "(ICCCC)[C"), (0, .methodref 8 17), (0, .nameAndType 5 18), (0, u "([C)V"), (0, .methodref 11 20), (0, .nameAndType 21 22), (0, u "ok"), (0, u "(C)Z"), (0, .methodref 24 25), (0, .class_ 26), (0, .nameAndType 27 28), (0, u "com/example/libpubid/libpubid/store/Names"), (0, u "isName"), (0, u "(Ljava/lang/String;I)Z"), (3, u "law"), (0, u "(IIIIII)Z")] 2

def k1m0 : Method := { name := "<init>", desc := "()V", sig := { parameters := [], returnType := none }, accessFlags := 2, code := none }
def k1c1 : Code := { maxStack := 2, maxLocals := 1, code := method_2_code, exceptionTable := #[], attributes := #[] }
def k1m1 : Method := { name := "ok", desc := "(C)Z", sig := { parameters := [.char], returnType := some .boolean }, accessFlags := 10, code := some k1c1 }
def k1c2 : Code := { maxStack := 4, maxLocals := 5, code := method_3_code, exceptionTable := #[], attributes := #[] }
def k1m2 : Method := { name := "build", desc := "(ICCCC)[C", sig := { parameters := [.int, .char, .char, .char, .char], returnType := some (.array .char) }, accessFlags := 10, code := some k1c2 }
def k1c3 : Code := { maxStack := 7, maxLocals := 13, code := code, exceptionTable := #[], attributes := #[] }
def k1m3 : Method := { name := "law", desc := "(IIIIII)Z", sig := { parameters := [.int, .int, .int, .int, .int, .int], returnType := some .boolean }, accessFlags := 9, code := some k1c3 }
/-- com/example/libpubid/libpubid/store/NamesIsNamePinLaw -/
def k1 : Class := { plain "com/example/libpubid/libpubid/store/NamesIsNamePinLaw" (some 0) with
  accessFlags := 49
  interfaces := #[]
  cf := some (fileOf pool1 11 #[] #[{ accessFlags := 2, nameIndex := 5, descriptorIndex := 6, attributes := #[] }, { accessFlags := 10, nameIndex := 21, descriptorIndex := 22, attributes := #[] }, { accessFlags := 10, nameIndex := 14, descriptorIndex := 15, attributes := #[] }, { accessFlags := 9, nameIndex := 32, descriptorIndex := 33, attributes := #[] }] 49 2 #[] #[])
  fields := #[]
  methods := #[k1m0, k1m1, k1m2, k1m3]
  instanceTypes := #[]
  staticTypes := #[]
  resolved := Array.replicate 36 none
  statics := none }

def pool2 : Array CpInfo := pool [(1, .class_ 2), (0, u "java/io/Serializable"), (0, .class_ 4), (0, u "java/lang/Object")] 2

/-- java/io/Serializable -/
def k2 : Class := { plain "java/io/Serializable" (some 0) with
  accessFlags := 1537
  interfaces := #[]
  cf := some (fileOf pool2 1 #[] #[] 1537 3 #[] #[])
  fields := #[]
  methods := #[]
  instanceTypes := #[]
  staticTypes := #[]
  resolved := Array.replicate 7 none
  statics := none }

def pool3 : Array CpInfo := pool [(1, .class_ 2), (0, u "java/lang/Comparable"), (0, .class_ 4), (0, u "java/lang/Object")] 7

/-- java/lang/Comparable -/
def k3 : Class := { plain "java/lang/Comparable" (some 0) with
  accessFlags := 1537
  interfaces := #[]
  cf := some (fileOf pool3 1 #[] #[] 1537 3 #[] #[])
  fields := #[]
  methods := #[]
  instanceTypes := #[]
  staticTypes := #[]
  resolved := Array.replicate 12 none
  statics := none }

def pool4 : Array CpInfo := pool [(2, .class_ 4), (1, u "java/lang/CharSequence"), (42, .class_ 48), (0, u "java/lang/CharSequence$1CodePointIterator"), (10, .class_ 60), (0, u "java/lang/CharSequence$1CharIterator"), (5, .class_ 67), (0, u "java/lang/Object")] 63

/-- java/lang/CharSequence -/
def k4 : Class := { plain "java/lang/CharSequence" (some 0) with
  accessFlags := 1537
  interfaces := #[]
  cf := some (fileOf pool4 2 #[.nestMembers #[47, 59]] #[] 1537 66 #[] #[])
  fields := #[]
  methods := #[]
  instanceTypes := #[]
  staticTypes := #[]
  resolved := Array.replicate 131 none
  statics := none }

def pool5 : Array CpInfo := pool [(1, .class_ 2), (0, u "java/lang/constant/Constable"), (0, .class_ 4), (0, u "java/lang/Object")] 6

/-- java/lang/constant/Constable -/
def k5 : Class := { plain "java/lang/constant/Constable" (some 0) with
  accessFlags := 1537
  interfaces := #[]
  cf := some (fileOf pool5 1 #[] #[] 1537 3 #[] #[])
  fields := #[]
  methods := #[]
  instanceTypes := #[]
  staticTypes := #[]
  resolved := Array.replicate 11 none
  statics := none }

def pool6 : Array CpInfo := pool [(1, .class_ 2), (0, u "java/lang/constant/ConstantDesc"), (0, .class_ 4), (0, u "java/lang/Object")] 32

/-- java/lang/constant/ConstantDesc -/
def k6 : Class := { plain "java/lang/constant/ConstantDesc" (some 0) with
  accessFlags := 1537
  interfaces := #[]
  cf := some (fileOf pool6 1 #[] #[] 1537 3 #[] #[])
  fields := #[]
  methods := #[]
  instanceTypes := #[]
  staticTypes := #[]
  resolved := Array.replicate 37 none
  statics := none }

def pool7 : Array CpInfo := pool [(1, .methodref 2 3), (0, .class_ 4), (0, .nameAndType 5 6), (0, u "java/lang/Object"), (0, u "<init>"), (0, u "()V"), (0, .string 8), (0, u ""), (0, .fieldref 10 11), (0, .class_ 12), (0, .nameAndType 13 14), (0, u "java/lang/String"), (0, u "value"), (0, u "[B"), (0, .fieldref 10 16), (0, .nameAndType 17 18), (0, u "coder"), (0, u "B"), (2, u "hash"), (0, u "I"), (2, u "hashIsZero"), (0, u "Z"), (0, .methodref 10 28), (0, .nameAndType 5 29), (0, u "([CIILjava/lang/Void;)V"), (8, .fieldref 10 39), (0, .nameAndType 40 26), (0, u "COMPACT_STRINGS"), (1, .class_ 44), (1, u "java/lang/StringUTF16"), (0, u "compress"), (1, .methodref 42 48), (0, .nameAndType 49 50), (0, u "coderFromArrayLen"), (0, u "([BI)B"), (56, .class_ 109), (1, u "java/lang/StringLatin1"), (32, u "()Z"), (34, .methodref 42 178), (0, .nameAndType 45 179), (0, u "([CII)[B"), (154, u "()I"), (0, .methodref 10 336), (0, .nameAndType 17 337), (0, u "()B"), (25, u "([BI)C"), (27, u "(II)V"), (35, u "(I)C"), (64, .methodref 10 493), (0, .nameAndType 494 142), (0, u "isLatin1"), (0, .methodref 107 496), (0, .nameAndType 497 363), (0, u "charAt"), (0, .methodref 42 496), (2, u "checkIndex"), (5, u "length"), (67, .class_ 576), (0, u "java/lang/CharSequence"), (22, u "CASE_INSENSITIVE_ORDER"), (0, u "Ljava/util/Comparator;"), (91, u "isEmpty"), (317, u "([C)V"), (42, .fieldref 1054 1055), (0, .class_ 1056), (0, .nameAndType 1057 1058), (0, u "jdk/internal/util/Preconditions"), (0, u "SIOOBE_FORMATTER"), (0, u "Ljava/util/function/BiFunction;"), (0, .methodref 1054 1060), (0, .nameAndType 501 1061), (0, u "(IILjava/util/function/BiFunction;)I"), (39, u "serialPersistentFields"), (0, u "[Ljava/io/ObjectStreamField;"), (0, .class_ 1104), (0, u "java/lang/String$CaseInsensitiveComparator"), (1, .class_ 1107), (0, u "java/io/Serializable"), (0, .class_ 1109), (0, u "java/lang/Comparable"), (0, .class_ 1111), (0, u "java/lang/constant/Constable"), (0, .class_ 1113), (0, u "java/lang/constant/ConstantDesc"), (2, u "serialVersionUID"), (0, u "J"), (3, u "REPL"), (0, u "C"), (2, u "LATIN1"), (1, u "UTF16")] 323

def k7m0 : Method := { name := "<init>", desc := "()V", sig := { parameters := [], returnType := none }, accessFlags := 1, code := none }
def k7c1 : Code := { maxStack := 5, maxLocals := 2, code := jdk_42_method_3_code, exceptionTable := #[], attributes := #[] }
def k7m1 : Method := { name := "<init>", desc := "([C)V", sig := { parameters := [(.array .char)], returnType := none }, accessFlags := 1, code := some k7c1 }
def k7c2 : Code := { maxStack := 2, maxLocals := 1, code := jdk_42_method_54_code, exceptionTable := #[], attributes := #[] }
def k7m2 : Method := { name := "length", desc := "()I", sig := { parameters := [], returnType := some .int }, accessFlags := 1, code := some k7c2 }
def k7c3 : Code := { maxStack := 1, maxLocals := 1, code := jdk_42_method_55_code, exceptionTable := #[], attributes := #[] }
def k7m3 : Method := { name := "isEmpty", desc := "()Z", sig := { parameters := [], returnType := some .boolean }, accessFlags := 1, code := some k7c3 }
def k7c4 : Code := { maxStack := 2, maxLocals := 2, code := jdk_42_method_56_code, exceptionTable := #[], attributes := #[] }
def k7m4 : Method := { name := "charAt", desc := "(I)C", sig := { parameters := [.int], returnType := some .char }, accessFlags := 1, code := some k7c4 }
def k7c5 : Code := { maxStack := 4, maxLocals := 6, code := jdk_42_method_149_code, exceptionTable := #[], attributes := #[] }
def k7m5 : Method := { name := "<init>", desc := "([CIILjava/lang/Void;)V", sig := { parameters := [(.array .char), .int, .int, (.object "java/lang/Void")], returnType := none }, accessFlags := 2, code := some k7c5 }
def k7c6 : Code := { maxStack := 1, maxLocals := 1, code := jdk_42_method_152_code, exceptionTable := #[], attributes := #[] }
def k7m6 : Method := { name := "coder", desc := "()B", sig := { parameters := [], returnType := some .byte }, accessFlags := 0, code := some k7c6 }
def k7c7 : Code := { maxStack := 1, maxLocals := 1, code := jdk_42_method_154_code, exceptionTable := #[], attributes := #[] }
def k7m7 : Method := { name := "isLatin1", desc := "()Z", sig := { parameters := [], returnType := some .boolean }, accessFlags := 0, code := some k7c7 }
def k7c8 : Code := { maxStack := 3, maxLocals := 2, code := jdk_42_method_155_code, exceptionTable := #[], attributes := #[] }
def k7m8 : Method := { name := "checkIndex", desc := "(II)V", sig := { parameters := [.int, .int], returnType := none }, accessFlags := 8, code := some k7c8 }
/-- java/lang/String -/
def k7 : Class := { plain "java/lang/String" (some 0) with
  accessFlags := 49
  interfaces := #[2, 3, 4, 5, 6]
  cf := some (fileOf pool7 10 #[.nestMembers #[1103]] #[{ accessFlags := 1, nameIndex := 5, descriptorIndex := 6, attributes := #[] }, { accessFlags := 1, nameIndex := 5, descriptorIndex := 1010, attributes := #[] }, { accessFlags := 1, nameIndex := 507, descriptorIndex := 334, attributes := #[] }, { accessFlags := 1, nameIndex := 692, descriptorIndex := 142, attributes := #[] }, { accessFlags := 1, nameIndex := 497, descriptorIndex := 427, attributes := #[] }, { accessFlags := 2, nameIndex := 5, descriptorIndex := 29, attributes := #[] }, { accessFlags := 0, nameIndex := 17, descriptorIndex := 337, attributes := #[] }, { accessFlags := 0, nameIndex := 494, descriptorIndex := 142, attributes := #[] }, { accessFlags := 8, nameIndex := 501, descriptorIndex := 391, attributes := #[] }] 49 2 #[1106, 1108, 575, 1110, 1112] #[{ accessFlags := 18, nameIndex := 13, descriptorIndex := 14, attributes := #[] }, { accessFlags := 18, nameIndex := 17, descriptorIndex := 18, attributes := #[] }, { accessFlags := 2, nameIndex := 21, descriptorIndex := 22, attributes := #[] }, { accessFlags := 2, nameIndex := 25, descriptorIndex := 26, attributes := #[] }, { accessFlags := 26, nameIndex := 1116, descriptorIndex := 1117, attributes := #[] }, { accessFlags := 24, nameIndex := 40, descriptorIndex := 26, attributes := #[] }, { accessFlags := 26, nameIndex := 1101, descriptorIndex := 1102, attributes := #[] }, { accessFlags := 26, nameIndex := 1121, descriptorIndex := 1122, attributes := #[] }, { accessFlags := 25, nameIndex := 599, descriptorIndex := 600, attributes := #[] }, { accessFlags := 24, nameIndex := 1125, descriptorIndex := 18, attributes := #[] }, { accessFlags := 24, nameIndex := 1127, descriptorIndex := 18, attributes := #[] }])
  fields := #[{ name := "value", type := (.array .byte), accessFlags := 18, slot := 0, constantValue := 0 }, { name := "coder", type := .byte, accessFlags := 18, slot := 1, constantValue := 0 }, { name := "hash", type := .int, accessFlags := 2, slot := 2, constantValue := 0 }, { name := "hashIsZero", type := .boolean, accessFlags := 2, slot := 3, constantValue := 0 }, { name := "serialVersionUID", type := .long, accessFlags := 26, slot := 0, constantValue := 0 }, { name := "COMPACT_STRINGS", type := .boolean, accessFlags := 24, slot := 1, constantValue := 0 }, { name := "serialPersistentFields", type := (.array (.object "java/io/ObjectStreamField")), accessFlags := 26, slot := 2, constantValue := 0 }, { name := "REPL", type := .char, accessFlags := 26, slot := 3, constantValue := 0 }, { name := "CASE_INSENSITIVE_ORDER", type := (.object "java/util/Comparator"), accessFlags := 25, slot := 4, constantValue := 0 }, { name := "LATIN1", type := .byte, accessFlags := 24, slot := 5, constantValue := 0 }, { name := "UTF16", type := .byte, accessFlags := 24, slot := 6, constantValue := 0 }]
  methods := #[k7m0, k7m1, k7m2, k7m3, k7m4, k7m5, k7m6, k7m7, k7m8]
  instanceTypes := #[(.array .byte), .byte, .int, .boolean]
  staticTypes := #[.long, .boolean, (.array (.object "java/io/ObjectStreamField")), .char, (.object "java/util/Comparator"), .byte, .byte]
  resolved := Array.replicate 1451 none
  statics := some 0 }

def pool8 : Array CpInfo := pool [(2, .class_ 4), (1, u "java/lang/Object"), (0, u "<init>"), (0, u "()V"), (0, .methodref 8 9), (0, .class_ 10), (0, .nameAndType 11 12), (0, u "java/lang/String"), (0, u "isEmpty"), (0, u "()Z"), (0, .methodref 8 14), (0, .nameAndType 15 16), (0, u "length"), (0, u "()I"), (0, .methodref 8 18), (0, .nameAndType 19 20), (0, u "charAt"), (0, u "(I)C"), (0, .class_ 22), (0, u "com/example/libpubid/libpubid/store/Names"), (2, u "isName"), (0, u "(Ljava/lang/String;I)Z")] 3

def k8m0 : Method := { name := "<init>", desc := "()V", sig := { parameters := [], returnType := none }, accessFlags := 2, code := none }
def k8c1 : Code := { maxStack := 2, maxLocals := 4, code := prog_38_method_2_code, exceptionTable := #[], attributes := #[] }
def k8m1 : Method := { name := "isName", desc := "(Ljava/lang/String;I)Z", sig := { parameters := [(.object "java/lang/String"), .int], returnType := some .boolean }, accessFlags := 8, code := some k8c1 }
/-- com/example/libpubid/libpubid/store/Names -/
def k8 : Class := { plain "com/example/libpubid/libpubid/store/Names" (some 0) with
  accessFlags := 32
  interfaces := #[]
  cf := some (fileOf pool8 21 #[] #[{ accessFlags := 2, nameIndex := 5, descriptorIndex := 6, attributes := #[] }, { accessFlags := 8, nameIndex := 25, descriptorIndex := 26, attributes := #[] }] 32 2 #[] #[])
  fields := #[]
  methods := #[k8m0, k8m1]
  instanceTypes := #[]
  staticTypes := #[]
  resolved := Array.replicate 30 none
  statics := none }

def pool9 : Array CpInfo := pool [(3, .class_ 4), (0, u "java/lang/String"), (1, .class_ 8), (1, u "java/lang/Object"), (0, u "<init>"), (0, u "()V"), (0, .methodref 12 13), (0, .class_ 14), (0, .nameAndType 15 16), (0, u "java/lang/StringUTF16"), (0, u "newBytesLength"), (0, u "(I)I"), (3, .integer 1073741823), (23, .fieldref 12 45), (0, .nameAndType 46 47), (0, u "$assertionsDisabled"), (0, u "Z"), (0, .methodref 12 49), (0, .nameAndType 50 51), (0, u "length"), (0, u "([B)I"), (7, .fieldref 12 60), (0, .nameAndType 61 62), (0, u "HI_BYTE_SHIFT"), (0, u "I"), (0, .fieldref 12 64), (0, .nameAndType 65 62), (0, u "LO_BYTE_SHIFT"), (1, .methodref 12 68), (0, .nameAndType 69 70), (0, u "checkIndex"), (0, u "(I[B)V"), (0, .methodref 12 72), (0, .nameAndType 73 74), (0, u "getChar"), (0, u "([BI)C"), (32, .methodref 12 108), (0, .nameAndType 109 110), (0, u "newBytesFor"), (0, u "(I)[B"), (0, .methodref 12 112), (0, .nameAndType 113 114), (0, u "putChar"), (0, u "([BII)V"), (0, .methodref 12 116), (0, .nameAndType 117 118), (0, u "compress"), (0, u "([CI[BII)I"), (0, .methodref 12 120), (0, .nameAndType 121 122), (0, u "toBytes"), (0, u "([CII)[B"), (138, u "coderFromArrayLen"), (0, u "([BI)B"), (106, .class_ 371), (1, u "java/lang/StringUTF16$LinesSpliterator"), (20, u "charAt"), (21, .methodref 3 415), (0, .nameAndType 69 416), (0, u "(II)V"), (13, u "MAX_LENGTH"), (196, .class_ 628), (0, u "java/lang/StringUTF16$CodePointsSpliterator"), (0, .class_ 630), (0, u "java/lang/StringUTF16$CharsSpliterator")] 4

def k9m0 : Method := { name := "<init>", desc := "()V", sig := { parameters := [], returnType := none }, accessFlags := 0, code := none }
def k9c1 : Code := { maxStack := 1, maxLocals := 1, code := jdk_52_method_2_code, exceptionTable := #[], attributes := #[] }
def k9m1 : Method := { name := "newBytesFor", desc := "(I)[B", sig := { parameters := [.int], returnType := some (.array .byte) }, accessFlags := 9, code := some k9c1 }
def k9c2 : Code := { maxStack := 4, maxLocals := 1, code := jdk_52_method_3_code, exceptionTable := #[], attributes := #[] }
def k9m2 : Method := { name := "newBytesLength", desc := "(I)I", sig := { parameters := [.int], returnType := some .int }, accessFlags := 9, code := some k9c2 }
def k9c3 : Code := { maxStack := 4, maxLocals := 3, code := jdk_52_method_4_code, exceptionTable := #[], attributes := #[] }
def k9m3 : Method := { name := "putChar", desc := "([BII)V", sig := { parameters := [(.array .byte), .int, .int], returnType := none }, accessFlags := 8, code := some k9c3 }
def k9c4 : Code := { maxStack := 3, maxLocals := 2, code := jdk_52_method_5_code, exceptionTable := #[], attributes := #[] }
def k9m4 : Method := { name := "getChar", desc := "([BI)C", sig := { parameters := [(.array .byte), .int], returnType := some .char }, accessFlags := 8, code := some k9c4 }
def k9c5 : Code := { maxStack := 2, maxLocals := 1, code := jdk_52_method_6_code, exceptionTable := #[], attributes := #[] }
def k9m5 : Method := { name := "length", desc := "([B)I", sig := { parameters := [(.array .byte)], returnType := some .int }, accessFlags := 9, code := some k9c5 }
def k9c6 : Code := { maxStack := 4, maxLocals := 5, code := jdk_52_method_14_code, exceptionTable := #[], attributes := #[] }
def k9m6 : Method := { name := "toBytes", desc := "([CII)[B", sig := { parameters := [(.array .char), .int, .int], returnType := some (.array .byte) }, accessFlags := 9, code := some k9c6 }
def k9c7 : Code := { maxStack := 2, maxLocals := 2, code := jdk_52_method_15_code, exceptionTable := #[], attributes := #[] }
def k9m7 : Method := { name := "coderFromArrayLen", desc := "([BI)B", sig := { parameters := [(.array .byte), .int], returnType := some .byte }, accessFlags := 8, code := some k9c7 }
def k9c8 : Code := { maxStack := 5, maxLocals := 6, code := jdk_52_method_16_code, exceptionTable := #[], attributes := #[] }
def k9m8 : Method := { name := "compress", desc := "([CII)[B", sig := { parameters := [(.array .char), .int, .int], returnType := some (.array .byte) }, accessFlags := 9, code := some k9c8 }
def k9c9 : Code := { maxStack := 3, maxLocals := 7, code := jdk_52_method_21_code, exceptionTable := #[], attributes := #[] }
def k9m9 : Method := { name := "compress", desc := "([CI[BII)I", sig := { parameters := [(.array .char), .int, (.array .byte), .int, .int], returnType := some .int }, accessFlags := 9, code := some k9c9 }
def k9c10 : Code := { maxStack := 2, maxLocals := 2, code := jdk_52_method_83_code, exceptionTable := #[], attributes := #[] }
def k9m10 : Method := { name := "charAt", desc := "([BI)C", sig := { parameters := [(.array .byte), .int], returnType := some .char }, accessFlags := 9, code := some k9c10 }
def k9c11 : Code := { maxStack := 2, maxLocals := 2, code := jdk_52_method_91_code, exceptionTable := #[], attributes := #[] }
def k9m11 : Method := { name := "checkIndex", desc := "(I[B)V", sig := { parameters := [.int, (.array .byte)], returnType := none }, accessFlags := 9, code := some k9c11 }
/-- java/lang/StringUTF16 -/
def k9 : Class := { plain "java/lang/StringUTF16" (some 0) with
  accessFlags := 48
  interfaces := #[]
  cf := some (fileOf pool9 12 #[.nestMembers #[627, 629, 369]] #[{ accessFlags := 0, nameIndex := 9, descriptorIndex := 10, attributes := #[] }, { accessFlags := 9, nameIndex := 109, descriptorIndex := 110, attributes := #[] }, { accessFlags := 9, nameIndex := 15, descriptorIndex := 16, attributes := #[] }, { accessFlags := 8, nameIndex := 113, descriptorIndex := 114, attributes := #[] }, { accessFlags := 8, nameIndex := 73, descriptorIndex := 74, attributes := #[] }, { accessFlags := 9, nameIndex := 50, descriptorIndex := 51, attributes := #[] }, { accessFlags := 9, nameIndex := 121, descriptorIndex := 122, attributes := #[] }, { accessFlags := 8, nameIndex := 261, descriptorIndex := 262, attributes := #[] }, { accessFlags := 9, nameIndex := 117, descriptorIndex := 122, attributes := #[] }, { accessFlags := 9, nameIndex := 117, descriptorIndex := 118, attributes := #[] }, { accessFlags := 9, nameIndex := 392, descriptorIndex := 74, attributes := #[] }, { accessFlags := 9, nameIndex := 69, descriptorIndex := 70, attributes := #[] }] 48 6 #[] #[{ accessFlags := 26, nameIndex := 61, descriptorIndex := 62, attributes := #[] }, { accessFlags := 26, nameIndex := 65, descriptorIndex := 62, attributes := #[] }, { accessFlags := 24, nameIndex := 430, descriptorIndex := 62, attributes := #[] }, { accessFlags := 4120, nameIndex := 46, descriptorIndex := 47, attributes := #[] }])
  fields := #[{ name := "HI_BYTE_SHIFT", type := .int, accessFlags := 26, slot := 0, constantValue := 0 }, { name := "LO_BYTE_SHIFT", type := .int, accessFlags := 26, slot := 1, constantValue := 0 }, { name := "MAX_LENGTH", type := .int, accessFlags := 24, slot := 2, constantValue := 0 }, { name := "$assertionsDisabled", type := .boolean, accessFlags := 4120, slot := 3, constantValue := 0 }]
  methods := #[k9m0, k9m1, k9m2, k9m3, k9m4, k9m5, k9m6, k9m7, k9m8, k9m9, k9m10, k9m11]
  instanceTypes := #[]
  staticTypes := #[.int, .int, .int, .boolean]
  resolved := Array.replicate 635 none
  statics := some 1 }

def pool10 : Array CpInfo := pool [(1, .class_ 2), (0, u "java/lang/String"), (1, .class_ 6), (1, u "java/lang/Object"), (0, u "<init>"), (0, u "()V"), (0, .methodref 1 10), (0, .nameAndType 11 12), (0, u "checkIndex"), (0, u "(II)V"), (1, .class_ 16), (1, u "java/lang/StringLatin1"), (36, u "([BI)C"), (67, u "$assertionsDisabled"), (0, u "Z"), (98, .class_ 223), (1, u "java/lang/StringLatin1$LinesSpliterator"), (28, u "charAt"), (137, .class_ 391), (0, u "java/lang/StringLatin1$CharsSpliterator")] 3

def k10m0 : Method := { name := "<init>", desc := "()V", sig := { parameters := [], returnType := none }, accessFlags := 0, code := none }
def k10c1 : Code := { maxStack := 2, maxLocals := 2, code := jdk_43_method_2_code, exceptionTable := #[], attributes := #[] }
def k10m1 : Method := { name := "charAt", desc := "([BI)C", sig := { parameters := [(.array .byte), .int], returnType := some .char }, accessFlags := 9, code := some k10c1 }
/-- java/lang/StringLatin1 -/
def k10 : Class := { plain "java/lang/StringLatin1" (some 0) with
  accessFlags := 48
  interfaces := #[]
  cf := some (fileOf pool10 14 #[.nestMembers #[390, 221]] #[{ accessFlags := 0, nameIndex := 7, descriptorIndex := 8, attributes := #[] }, { accessFlags := 9, nameIndex := 252, descriptorIndex := 53, attributes := #[] }] 48 4 #[] #[{ accessFlags := 4120, nameIndex := 121, descriptorIndex := 122, attributes := #[] }])
  fields := #[{ name := "$assertionsDisabled", type := .boolean, accessFlags := 4120, slot := 0, constantValue := 0 }]
  methods := #[k10m0, k10m1]
  instanceTypes := #[]
  staticTypes := #[.boolean]
  resolved := Array.replicate 395 none
  statics := none }

def pool11 : Array CpInfo := pool [(2, .class_ 4), (1, u "java/lang/Object"), (0, u "<init>"), (0, u "()V"), (17, .class_ 26), (1, u "jdk/internal/util/Preconditions"), (6, u "checkIndex"), (21, .class_ 56), (0, u "jdk/internal/util/Preconditions$4"), (57, .class_ 115), (0, u "jdk/internal/util/Preconditions$1"), (7, u "SIOOBE_FORMATTER"), (0, u "Ljava/util/function/BiFunction;"), (0, .class_ 126), (0, u "jdk/internal/util/Preconditions$2"), (3, u "AIOOBE_FORMATTER"), (0, .class_ 132), (0, u "jdk/internal/util/Preconditions$3"), (3, u "IOOBE_FORMATTER"), (41, u "(IILjava/util/function/BiFunction;)I")] 15

def k11m0 : Method := { name := "<init>", desc := "()V", sig := { parameters := [], returnType := none }, accessFlags := 1, code := none }
def k11c1 : Code := { maxStack := 3, maxLocals := 3, code := jdk_41_method_11_code, exceptionTable := #[], attributes := #[] }
def k11m1 : Method := { name := "checkIndex", desc := "(IILjava/util/function/BiFunction;)I", sig := { parameters := [.int, .int, (.object "java/util/function/BiFunction")], returnType := some .int }, accessFlags := 9, code := some k11c1 }
/-- jdk/internal/util/Preconditions -/
def k11 : Class := { plain "jdk/internal/util/Preconditions" (some 0) with
  accessFlags := 33
  interfaces := #[]
  cf := some (fileOf pool11 24 #[.nestMembers #[55, 131, 125, 114]] #[{ accessFlags := 1, nameIndex := 5, descriptorIndex := 6, attributes := #[] }, { accessFlags := 9, nameIndex := 33, descriptorIndex := 178, attributes := #[] }] 33 2 #[] #[{ accessFlags := 25, nameIndex := 123, descriptorIndex := 124, attributes := #[] }, { accessFlags := 25, nameIndex := 130, descriptorIndex := 124, attributes := #[] }, { accessFlags := 25, nameIndex := 136, descriptorIndex := 124, attributes := #[] }])
  fields := #[{ name := "SIOOBE_FORMATTER", type := (.object "java/util/function/BiFunction"), accessFlags := 25, slot := 0, constantValue := 0 }, { name := "AIOOBE_FORMATTER", type := (.object "java/util/function/BiFunction"), accessFlags := 25, slot := 1, constantValue := 0 }, { name := "IOOBE_FORMATTER", type := (.object "java/util/function/BiFunction"), accessFlags := 25, slot := 2, constantValue := 0 }]
  methods := #[k11m0, k11m1]
  instanceTypes := #[]
  staticTypes := #[(.object "java/util/function/BiFunction"), (.object "java/util/function/BiFunction"), (.object "java/util/function/BiFunction")]
  resolved := Array.replicate 194 none
  statics := some 2 }

def pool12 : Array CpInfo := pool [(9, u "<init>"), (6, .class_ 18), (1, u "java/lang/Object"), (0, u "()V"), (1, .class_ 23), (1, u "jdk/internal/util/ArraysSupport"), (0, u "LOG2_ARRAY_LONG_INDEX_SCALE"), (0, u "I"), (2, u "U"), (0, u "Ljdk/internal/misc/Unsafe;"), (8, u "BIG_ENDIAN"), (0, u "Z"), (8, u "LOG2_BYTE_BIT_SIZE"), (4, u "LOG2_ARRAY_INT_INDEX_SCALE"), (54, u "JLA"), (0, u "Ljdk/internal/access/JavaLangAccess;"), (11, u "LOG2_ARRAY_BOOLEAN_INDEX_SCALE"), (9, u "LOG2_ARRAY_BYTE_INDEX_SCALE"), (5, u "LOG2_ARRAY_CHAR_INDEX_SCALE"), (5, u "LOG2_ARRAY_SHORT_INDEX_SCALE"), (18, u "LOG2_ARRAY_FLOAT_INDEX_SCALE"), (24, u "LOG2_ARRAY_DOUBLE_INDEX_SCALE"), (89, u "T_BOOLEAN"), (2, u "T_CHAR"), (1, u "T_FLOAT"), (1, u "T_DOUBLE"), (1, u "T_BYTE"), (1, u "T_SHORT"), (1, u "T_INT"), (1, u "T_LONG"), (1, u "SOFT_MAX_ARRAY_LENGTH")] 83

def k12m0 : Method := { name := "<init>", desc := "()V", sig := { parameters := [], returnType := none }, accessFlags := 2, code := none }
/-- jdk/internal/util/ArraysSupport -/
def k12 : Class := { plain "jdk/internal/util/ArraysSupport" (some 0) with
  accessFlags := 33
  interfaces := #[]
  cf := some (fileOf pool12 21 #[] #[{ accessFlags := 2, nameIndex := 9, descriptorIndex := 19, attributes := #[] }] 33 16 #[] #[{ accessFlags := 24, nameIndex := 28, descriptorIndex := 29, attributes := #[] }, { accessFlags := 26, nameIndex := 38, descriptorIndex := 39, attributes := #[] }, { accessFlags := 25, nameIndex := 121, descriptorIndex := 25, attributes := #[] }, { accessFlags := 25, nameIndex := 131, descriptorIndex := 25, attributes := #[] }, { accessFlags := 25, nameIndex := 137, descriptorIndex := 25, attributes := #[] }, { accessFlags := 25, nameIndex := 143, descriptorIndex := 25, attributes := #[] }, { accessFlags := 25, nameIndex := 53, descriptorIndex := 25, attributes := #[] }, { accessFlags := 25, nameIndex := 24, descriptorIndex := 25, attributes := #[] }, { accessFlags := 25, nameIndex := 162, descriptorIndex := 25, attributes := #[] }, { accessFlags := 25, nameIndex := 187, descriptorIndex := 25, attributes := #[] }, { accessFlags := 26, nameIndex := 48, descriptorIndex := 25, attributes := #[] }, { accessFlags := 25, nameIndex := 277, descriptorIndex := 25, attributes := #[] }, { accessFlags := 25, nameIndex := 280, descriptorIndex := 25, attributes := #[] }, { accessFlags := 25, nameIndex := 282, descriptorIndex := 25, attributes := #[] }, { accessFlags := 25, nameIndex := 284, descriptorIndex := 25, attributes := #[] }, { accessFlags := 25, nameIndex := 286, descriptorIndex := 25, attributes := #[] }, { accessFlags := 25, nameIndex := 288, descriptorIndex := 25, attributes := #[] }, { accessFlags := 25, nameIndex := 290, descriptorIndex := 25, attributes := #[] }, { accessFlags := 25, nameIndex := 292, descriptorIndex := 25, attributes := #[] }, { accessFlags := 26, nameIndex := 108, descriptorIndex := 109, attributes := #[] }, { accessFlags := 25, nameIndex := 294, descriptorIndex := 25, attributes := #[] }])
  fields := #[{ name := "U", type := (.object "jdk/internal/misc/Unsafe"), accessFlags := 24, slot := 0, constantValue := 0 }, { name := "BIG_ENDIAN", type := .boolean, accessFlags := 26, slot := 1, constantValue := 0 }, { name := "LOG2_ARRAY_BOOLEAN_INDEX_SCALE", type := .int, accessFlags := 25, slot := 2, constantValue := 0 }, { name := "LOG2_ARRAY_BYTE_INDEX_SCALE", type := .int, accessFlags := 25, slot := 3, constantValue := 0 }, { name := "LOG2_ARRAY_CHAR_INDEX_SCALE", type := .int, accessFlags := 25, slot := 4, constantValue := 0 }, { name := "LOG2_ARRAY_SHORT_INDEX_SCALE", type := .int, accessFlags := 25, slot := 5, constantValue := 0 }, { name := "LOG2_ARRAY_INT_INDEX_SCALE", type := .int, accessFlags := 25, slot := 6, constantValue := 0 }, { name := "LOG2_ARRAY_LONG_INDEX_SCALE", type := .int, accessFlags := 25, slot := 7, constantValue := 0 }, { name := "LOG2_ARRAY_FLOAT_INDEX_SCALE", type := .int, accessFlags := 25, slot := 8, constantValue := 0 }, { name := "LOG2_ARRAY_DOUBLE_INDEX_SCALE", type := .int, accessFlags := 25, slot := 9, constantValue := 0 }, { name := "LOG2_BYTE_BIT_SIZE", type := .int, accessFlags := 26, slot := 10, constantValue := 0 }, { name := "T_BOOLEAN", type := .int, accessFlags := 25, slot := 11, constantValue := 0 }, { name := "T_CHAR", type := .int, accessFlags := 25, slot := 12, constantValue := 0 }, { name := "T_FLOAT", type := .int, accessFlags := 25, slot := 13, constantValue := 0 }, { name := "T_DOUBLE", type := .int, accessFlags := 25, slot := 14, constantValue := 0 }, { name := "T_BYTE", type := .int, accessFlags := 25, slot := 15, constantValue := 0 }, { name := "T_SHORT", type := .int, accessFlags := 25, slot := 16, constantValue := 0 }, { name := "T_INT", type := .int, accessFlags := 25, slot := 17, constantValue := 0 }, { name := "T_LONG", type := .int, accessFlags := 25, slot := 18, constantValue := 0 }, { name := "JLA", type := (.object "jdk/internal/access/JavaLangAccess"), accessFlags := 26, slot := 19, constantValue := 0 }, { name := "SOFT_MAX_ARRAY_LENGTH", type := .int, accessFlags := 25, slot := 20, constantValue := 0 }]
  methods := #[k12m0]
  instanceTypes := #[]
  staticTypes := #[(.object "jdk/internal/misc/Unsafe"), .boolean, .int, .int, .int, .int, .int, .int, .int, .int, .int, .int, .int, .int, .int, .int, .int, .int, .int, (.object "jdk/internal/access/JavaLangAccess"), .int]
  resolved := Array.replicate 378 none
  statics := none }

def pool13 : Array CpInfo := pool [(1, u "java/lang/Cloneable"), (0, .class_ 1), (0, u "java/lang/Object"), (0, .class_ 3)] 3

/-- java/lang/Cloneable -/
def k13 : Class := { plain "java/lang/Cloneable" (some 0) with
  accessFlags := 1537
  interfaces := #[]
  cf := some (fileOf pool13 2 #[] #[] 1537 4 #[] #[])
  fields := #[]
  methods := #[]
  instanceTypes := #[]
  staticTypes := #[]
  resolved := Array.replicate 8 none
  statics := none }

/-- the primitive byte -/
def k14 : Class := { plain "byte" none with kind := .primitive 'B', accessFlags := 0x411 }
/-- [B -/
def k15 : Class := { plain "[B" (some 0) with kind := .array 14 .byte, interfaces := #[13, 2], accessFlags := 1041 }

/-- the primitive char -/
def k16 : Class := { plain "char" none with kind := .primitive 'C', accessFlags := 0x411 }
/-- [C -/
def k17 : Class := { plain "[C" (some 0) with kind := .array 16 .char, interfaces := #[13, 2], accessFlags := 1041 }

/-- the primitive int -/
def k18 : Class := { plain "int" none with kind := .primitive 'I', accessFlags := 0x411 }
/-- [I -/
def k19 : Class := { plain "[I" (some 0) with kind := .array 18 .int, interfaces := #[13, 2], accessFlags := 1041 }

def heap : Heap := #[{ cls := 7, slots := #[.long 0, .int 1, .null, .int 0, .null, .int 0, .int 0], vm := .statics 7 },
  { cls := 9, slots := #[.int 0, .int 8, .int 0, .int 1], vm := .statics 9 },
  { cls := 11, slots := #[.null, .null, .null], vm := .statics 11 }]
def classes : Array Class := #[k0, k1, k2, k3, k4, k5, k6, k7, k8, k9, k10, k11, k12, k13, k14, k15, k16, k17, k18, k19]
def interned : List (Array UInt16 × Addr) := []
def slotsUsed : Nat := 14
def theMethod : MethodId := ⟨1, 3⟩
def args0 : Array Value := #[.int 5, .int 6, .int 7, .int 1, .int 2, .int 3]
def aboutOver (below : List Frame) : State where
  vm := { classes := classes, interned := interned.toArray }
  heap := heap
  slotsUsed := slotsUsed
  threads := #[{ frames := .invoking theMethod args0 :: below }]
def below0 : List Frame := [.native { method := ⟨0, 0⟩, args := #[] }]
def about1 : State := aboutOver below0
def p0 : Program := .bare "" "" ""
def e0 : Env := launch0.env 0 0 0
theorem w_frames : about1.frames = Frame.invoking theMethod args0 :: below0 := rfl
set_option maxRecDepth 65536 in
theorem w_args : argsFit about1.vm theMethod args0 = true := by decide +kernel
set_option maxRecDepth 65536 in
theorem w_heap : heapFits about1 = true := by decide +kernel
set_option maxRecDepth 65536 in
theorem w_runnable : about1.curStatus? = some .runnable := by decide +kernel
set_option maxRecDepth 65536 in
theorem w_alone : about1.alone = true := by decide +kernel
set_option maxRecDepth 65536 in
theorem w_named : about1.methodNamed? x = some theMethod := by decide +kernel
set_option maxRecDepth 65536 in
theorem w_hears : about1.hears theMethod below0 = true := by decide +kernel
set_option maxRecDepth 65536 in
theorem w_ripe : about1.ripe theMethod args0 below0 = true := by decide +kernel
theorem w_running : about1.status = .running := rfl
set_option maxRecDepth 65536 in
theorem w_room : about1.hasRoom e0.platform room_1 = true :=
  launch0.hasRoom_least _ room_1 (by decide +kernel) (by decide +kernel) (by decide +kernel) (by decide +kernel) (by decide +kernel) (by decide +kernel)
theorem allAtoms_all (ts : List Jvm.Cond) (a : Array Jvm.Value) (st : Jvm.State) : (allAtoms ts).before a st = ts.all (fun c => c.before a st) := by
  induction ts with
  | nil => rfl
  | cons c t ih =>
    show (Jvm.Cond.and c (allAtoms t)).before a st = _
    rw [Jvm.Cond.before_and, ih, List.all_cons]
def words1 : List Jvm.Cond := Jvm.Cond.code x code maxLocals ret :: tables_1
/-- a 'code' word, met by the world's own term for the bytes: nothing is compared byte by byte -/
theorem code_word {y : MethodName} {bytes : ByteArray} {mx : Nat} {rt : Option FieldType} {a : Array Value} {s : State} {m : MethodId} {meth : Method} {c : Code} (h1 : s.methodNamed? y = some m) (h2 : s.vm.method? m = some meth) (h3 : meth.code = some c) (h4 : c.code = bytes)
    (h5 : (c.maxLocals == mx && c.exceptionTable.isEmpty && decide (c.maxStack ≤ mostOperands) && decide (meth.sig.returnType = rt) && !meth.locks && decide (parseMethodDescriptor y.desc = some meth.sig)) = true) : (Jvm.Cond.code y bytes mx rt).before a s = true := by
  simp only [Bool.and_eq_true, beq_iff_eq, Bool.not_eq_true', decide_eq_true_eq] at h5
  obtain ⟨⟨⟨⟨⟨g1, g2⟩, g3⟩, g4⟩, g5⟩, g6⟩ := h5
  simp [Cond.before, Cond.holds, Cond.value, h1, h2, h3, h4, g1, g2, g3, g4, g5, g6]
def isCode : Jvm.Cond → Bool
  | .code _ _ _ _ => true
  | _ => false
theorem all_split {L : List Jvm.Cond} {P : Jvm.Cond → Bool} (h1 : L.all (fun c => isCode c || P c) = true) (h2 : ∀ c ∈ L.filter isCode, P c = true) : L.all P = true := by
  refine List.all_eq_true.mpr fun c hc => ?_
  have h := List.all_eq_true.mp h1 c hc
  rcases Bool.eq_false_or_eq_true (isCode c) with hi | hi
  · exact h2 c (List.mem_filter.mpr ⟨hc, hi⟩)
  · simpa [hi] using h
set_option maxRecDepth 65536 in
theorem w_c0 : (Jvm.Cond.code x code maxLocals ret).before args0 about1 = true := code_word (m := ⟨1, 3⟩) (meth := k1m3) (c := k1c3) (by decide +kernel) rfl rfl rfl (by decide +kernel)
set_option maxRecDepth 65536 in
theorem w_c1 : (Jvm.Cond.code ({ cls := "com/example/libpubid/libpubid/store/NamesIsNamePinLaw", name := "build", desc := "(ICCCC)[C" } : Jvm.MethodName) method_3_code (5 : Nat) (Option.some (Jvm.ClassFile.FieldType.array Jvm.ClassFile.FieldType.char))).before args0 about1 = true := code_word (m := ⟨1, 2⟩) (meth := k1m2) (c := k1c2) (by decide +kernel) rfl rfl rfl (by decide +kernel)
set_option maxRecDepth 65536 in
theorem w_c2 : (Jvm.Cond.code ({ cls := "java/lang/String", name := "<init>", desc := "([C)V" } : Jvm.MethodName) jdk_42_method_3_code (2 : Nat) (Option.none : Option Jvm.ClassFile.FieldType)).before args0 about1 = true := code_word (m := ⟨7, 1⟩) (meth := k7m1) (c := k7c1) (by decide +kernel) rfl rfl rfl (by decide +kernel)
set_option maxRecDepth 65536 in
theorem w_c3 : (Jvm.Cond.code ({ cls := "java/lang/String", name := "<init>", desc := "([CIILjava/lang/Void;)V" } : Jvm.MethodName) jdk_42_method_149_code (6 : Nat) (Option.none : Option Jvm.ClassFile.FieldType)).before args0 about1 = true := code_word (m := ⟨7, 5⟩) (meth := k7m5) (c := k7c5) (by decide +kernel) rfl rfl rfl (by decide +kernel)
set_option maxRecDepth 65536 in
theorem w_c4 : (Jvm.Cond.code ({ cls := "java/lang/Object", name := "<init>", desc := "()V" } : Jvm.MethodName) object_method_1_code (1 : Nat) (Option.none : Option Jvm.ClassFile.FieldType)).before args0 about1 = true := code_word (m := ⟨0, 0⟩) (meth := k0m0) (c := k0c0) (by decide +kernel) rfl rfl rfl (by decide +kernel)
set_option maxRecDepth 65536 in
theorem w_c5 : (Jvm.Cond.code ({ cls := "com/example/libpubid/libpubid/store/Names", name := "isName", desc := "(Ljava/lang/String;I)Z" } : Jvm.MethodName) prog_38_method_2_code (4 : Nat) (Option.some Jvm.ClassFile.FieldType.boolean)).before args0 about1 = true := code_word (m := ⟨8, 1⟩) (meth := k8m1) (c := k8c1) (by decide +kernel) rfl rfl rfl (by decide +kernel)
set_option maxRecDepth 65536 in
theorem w_c6 : (Jvm.Cond.code ({ cls := "java/lang/String", name := "isEmpty", desc := "()Z" } : Jvm.MethodName) jdk_42_method_55_code (1 : Nat) (Option.some Jvm.ClassFile.FieldType.boolean)).before args0 about1 = true := code_word (m := ⟨7, 3⟩) (meth := k7m3) (c := k7c3) (by decide +kernel) rfl rfl rfl (by decide +kernel)
set_option maxRecDepth 65536 in
theorem w_c7 : (Jvm.Cond.code ({ cls := "java/lang/StringUTF16", name := "compress", desc := "([CII)[B" } : Jvm.MethodName) jdk_52_method_16_code (6 : Nat) (Option.some (Jvm.ClassFile.FieldType.array Jvm.ClassFile.FieldType.byte))).before args0 about1 = true := code_word (m := ⟨9, 8⟩) (meth := k9m8) (c := k9c8) (by decide +kernel) rfl rfl rfl (by decide +kernel)
set_option maxRecDepth 65536 in
theorem w_c8 : (Jvm.Cond.code ({ cls := "java/lang/StringUTF16", name := "compress", desc := "([CI[BII)I" } : Jvm.MethodName) jdk_52_method_21_code (7 : Nat) (Option.some Jvm.ClassFile.FieldType.int)).before args0 about1 = true := code_word (m := ⟨9, 9⟩) (meth := k9m9) (c := k9c9) (by decide +kernel) rfl rfl rfl (by decide +kernel)
set_option maxRecDepth 65536 in
theorem w_c9 : (Jvm.Cond.code ({ cls := "java/lang/StringUTF16", name := "coderFromArrayLen", desc := "([BI)B" } : Jvm.MethodName) jdk_52_method_15_code (2 : Nat) (Option.some Jvm.ClassFile.FieldType.byte)).before args0 about1 = true := code_word (m := ⟨9, 7⟩) (meth := k9m7) (c := k9c7) (by decide +kernel) rfl rfl rfl (by decide +kernel)
set_option maxRecDepth 65536 in
theorem w_c10 : (Jvm.Cond.code ({ cls := "com/example/libpubid/libpubid/store/NamesIsNamePinLaw", name := "ok", desc := "(C)Z" } : Jvm.MethodName) method_2_code (1 : Nat) (Option.some Jvm.ClassFile.FieldType.boolean)).before args0 about1 = true := code_word (m := ⟨1, 1⟩) (meth := k1m1) (c := k1c1) (by decide +kernel) rfl rfl rfl (by decide +kernel)
set_option maxRecDepth 65536 in
theorem w_c11 : (Jvm.Cond.code ({ cls := "java/lang/String", name := "length", desc := "()I" } : Jvm.MethodName) jdk_42_method_54_code (1 : Nat) (Option.some Jvm.ClassFile.FieldType.int)).before args0 about1 = true := code_word (m := ⟨7, 2⟩) (meth := k7m2) (c := k7c2) (by decide +kernel) rfl rfl rfl (by decide +kernel)
set_option maxRecDepth 65536 in
theorem w_c12 : (Jvm.Cond.code ({ cls := "java/lang/String", name := "coder", desc := "()B" } : Jvm.MethodName) jdk_42_method_152_code (1 : Nat) (Option.some Jvm.ClassFile.FieldType.byte)).before args0 about1 = true := code_word (m := ⟨7, 6⟩) (meth := k7m6) (c := k7c6) (by decide +kernel) rfl rfl rfl (by decide +kernel)
set_option maxRecDepth 65536 in
theorem w_c13 : (Jvm.Cond.code ({ cls := "java/lang/String", name := "charAt", desc := "(I)C" } : Jvm.MethodName) jdk_42_method_56_code (2 : Nat) (Option.some Jvm.ClassFile.FieldType.char)).before args0 about1 = true := code_word (m := ⟨7, 4⟩) (meth := k7m4) (c := k7c4) (by decide +kernel) rfl rfl rfl (by decide +kernel)
set_option maxRecDepth 65536 in
theorem w_c14 : (Jvm.Cond.code ({ cls := "java/lang/String", name := "isLatin1", desc := "()Z" } : Jvm.MethodName) jdk_42_method_154_code (1 : Nat) (Option.some Jvm.ClassFile.FieldType.boolean)).before args0 about1 = true := code_word (m := ⟨7, 7⟩) (meth := k7m7) (c := k7c7) (by decide +kernel) rfl rfl rfl (by decide +kernel)
set_option maxRecDepth 65536 in
theorem w_c15 : (Jvm.Cond.code ({ cls := "java/lang/StringLatin1", name := "charAt", desc := "([BI)C" } : Jvm.MethodName) jdk_43_method_2_code (2 : Nat) (Option.some Jvm.ClassFile.FieldType.char)).before args0 about1 = true := code_word (m := ⟨10, 1⟩) (meth := k10m1) (c := k10c1) (by decide +kernel) rfl rfl rfl (by decide +kernel)
set_option maxRecDepth 65536 in
theorem w_c16 : (Jvm.Cond.code ({ cls := "java/lang/String", name := "checkIndex", desc := "(II)V" } : Jvm.MethodName) jdk_42_method_155_code (2 : Nat) (Option.none : Option Jvm.ClassFile.FieldType)).before args0 about1 = true := code_word (m := ⟨7, 8⟩) (meth := k7m8) (c := k7c8) (by decide +kernel) rfl rfl rfl (by decide +kernel)
set_option maxRecDepth 65536 in
theorem w_c17 : (Jvm.Cond.code ({ cls := "jdk/internal/util/Preconditions", name := "checkIndex", desc := "(IILjava/util/function/BiFunction;)I" } : Jvm.MethodName) jdk_41_method_11_code (3 : Nat) (Option.some Jvm.ClassFile.FieldType.int)).before args0 about1 = true := code_word (m := ⟨11, 1⟩) (meth := k11m1) (c := k11c1) (by decide +kernel) rfl rfl rfl (by decide +kernel)
set_option maxRecDepth 65536 in
theorem w_c18 : (Jvm.Cond.code ({ cls := "java/lang/StringUTF16", name := "toBytes", desc := "([CII)[B" } : Jvm.MethodName) jdk_52_method_14_code (5 : Nat) (Option.some (Jvm.ClassFile.FieldType.array Jvm.ClassFile.FieldType.byte))).before args0 about1 = true := code_word (m := ⟨9, 6⟩) (meth := k9m6) (c := k9c6) (by decide +kernel) rfl rfl rfl (by decide +kernel)
set_option maxRecDepth 65536 in
theorem w_c19 : (Jvm.Cond.code ({ cls := "java/lang/StringUTF16", name := "newBytesFor", desc := "(I)[B" } : Jvm.MethodName) jdk_52_method_2_code (1 : Nat) (Option.some (Jvm.ClassFile.FieldType.array Jvm.ClassFile.FieldType.byte))).before args0 about1 = true := code_word (m := ⟨9, 1⟩) (meth := k9m1) (c := k9c1) (by decide +kernel) rfl rfl rfl (by decide +kernel)
set_option maxRecDepth 65536 in
theorem w_c20 : (Jvm.Cond.code ({ cls := "java/lang/StringUTF16", name := "newBytesLength", desc := "(I)I" } : Jvm.MethodName) jdk_52_method_3_code (1 : Nat) (Option.some Jvm.ClassFile.FieldType.int)).before args0 about1 = true := code_word (m := ⟨9, 2⟩) (meth := k9m2) (c := k9c2) (by decide +kernel) rfl rfl rfl (by decide +kernel)
set_option maxRecDepth 65536 in
theorem w_c21 : (Jvm.Cond.code ({ cls := "java/lang/StringUTF16", name := "putChar", desc := "([BII)V" } : Jvm.MethodName) jdk_52_method_4_code (3 : Nat) (Option.none : Option Jvm.ClassFile.FieldType)).before args0 about1 = true := code_word (m := ⟨9, 3⟩) (meth := k9m3) (c := k9c3) (by decide +kernel) rfl rfl rfl (by decide +kernel)
set_option maxRecDepth 65536 in
theorem w_c22 : (Jvm.Cond.code ({ cls := "java/lang/StringUTF16", name := "getChar", desc := "([BI)C" } : Jvm.MethodName) jdk_52_method_5_code (2 : Nat) (Option.some Jvm.ClassFile.FieldType.char)).before args0 about1 = true := code_word (m := ⟨9, 4⟩) (meth := k9m4) (c := k9c4) (by decide +kernel) rfl rfl rfl (by decide +kernel)
set_option maxRecDepth 65536 in
theorem w_c23 : (Jvm.Cond.code ({ cls := "java/lang/StringUTF16", name := "charAt", desc := "([BI)C" } : Jvm.MethodName) jdk_52_method_83_code (2 : Nat) (Option.some Jvm.ClassFile.FieldType.char)).before args0 about1 = true := code_word (m := ⟨9, 10⟩) (meth := k9m10) (c := k9c10) (by decide +kernel) rfl rfl rfl (by decide +kernel)
set_option maxRecDepth 65536 in
theorem w_c24 : (Jvm.Cond.code ({ cls := "java/lang/StringUTF16", name := "checkIndex", desc := "(I[B)V" } : Jvm.MethodName) jdk_52_method_91_code (2 : Nat) (Option.none : Option Jvm.ClassFile.FieldType)).before args0 about1 = true := code_word (m := ⟨9, 11⟩) (meth := k9m11) (c := k9c11) (by decide +kernel) rfl rfl rfl (by decide +kernel)
set_option maxRecDepth 65536 in
theorem w_c25 : (Jvm.Cond.code ({ cls := "java/lang/StringUTF16", name := "length", desc := "([B)I" } : Jvm.MethodName) jdk_52_method_6_code (1 : Nat) (Option.some Jvm.ClassFile.FieldType.int)).before args0 about1 = true := code_word (m := ⟨9, 5⟩) (meth := k9m5) (c := k9c5) (by decide +kernel) rfl rfl rfl (by decide +kernel)
def codes1 : List Jvm.Cond := [Jvm.Cond.code x code maxLocals ret, Jvm.Cond.code ({ cls := "com/example/libpubid/libpubid/store/NamesIsNamePinLaw", name := "build", desc := "(ICCCC)[C" } : Jvm.MethodName) method_3_code (5 : Nat) (Option.some (Jvm.ClassFile.FieldType.array Jvm.ClassFile.FieldType.char)), Jvm.Cond.code ({ cls := "java/lang/String", name := "<init>", desc := "([C)V" } : Jvm.MethodName) jdk_42_method_3_code (2 : Nat) (Option.none : Option Jvm.ClassFile.FieldType), Jvm.Cond.code ({ cls := "java/lang/String", name := "<init>", desc := "([CIILjava/lang/Void;)V" } : Jvm.MethodName) jdk_42_method_149_code (6 : Nat) (Option.none : Option Jvm.ClassFile.FieldType), Jvm.Cond.code ({ cls := "java/lang/Object", name := "<init>", desc := "()V" } : Jvm.MethodName) object_method_1_code (1 : Nat) (Option.none : Option Jvm.ClassFile.FieldType), Jvm.Cond.code ({ cls := "com/example/libpubid/libpubid/store/Names", name := "isName", desc := "(Ljava/lang/String;I)Z" } : Jvm.MethodName) prog_38_method_2_code (4 : Nat) (Option.some Jvm.ClassFile.FieldType.boolean), Jvm.Cond.code ({ cls := "java/lang/String", name := "isEmpty", desc := "()Z" } : Jvm.MethodName) jdk_42_method_55_code (1 : Nat) (Option.some Jvm.ClassFile.FieldType.boolean), Jvm.Cond.code ({ cls := "java/lang/StringUTF16", name := "compress", desc := "([CII)[B" } : Jvm.MethodName) jdk_52_method_16_code (6 : Nat) (Option.some (Jvm.ClassFile.FieldType.array Jvm.ClassFile.FieldType.byte)), Jvm.Cond.code ({ cls := "java/lang/StringUTF16", name := "compress", desc := "([CI[BII)I" } : Jvm.MethodName) jdk_52_method_21_code (7 : Nat) (Option.some Jvm.ClassFile.FieldType.int), Jvm.Cond.code ({ cls := "java/lang/StringUTF16", name := "coderFromArrayLen", desc := "([BI)B" } : Jvm.MethodName) jdk_52_method_15_code (2 : Nat) (Option.some Jvm.ClassFile.FieldType.byte), Jvm.Cond.code ({ cls := "com/example/libpubid/libpubid/store/NamesIsNamePinLaw", name := "ok", desc := "(C)Z" } : Jvm.MethodName) method_2_code (1 : Nat) (Option.some Jvm.ClassFile.FieldType.boolean), Jvm.Cond.code ({ cls := "java/lang/String", name := "length", desc := "()I" } : Jvm.MethodName) jdk_42_method_54_code (1 : Nat) (Option.some Jvm.ClassFile.FieldType.int), Jvm.Cond.code ({ cls := "java/lang/String", name := "coder", desc := "()B" } : Jvm.MethodName) jdk_42_method_152_code (1 : Nat) (Option.some Jvm.ClassFile.FieldType.byte), Jvm.Cond.code ({ cls := "java/lang/String", name := "charAt", desc := "(I)C" } : Jvm.MethodName) jdk_42_method_56_code (2 : Nat) (Option.some Jvm.ClassFile.FieldType.char), Jvm.Cond.code ({ cls := "java/lang/String", name := "isLatin1", desc := "()Z" } : Jvm.MethodName) jdk_42_method_154_code (1 : Nat) (Option.some Jvm.ClassFile.FieldType.boolean), Jvm.Cond.code ({ cls := "java/lang/StringLatin1", name := "charAt", desc := "([BI)C" } : Jvm.MethodName) jdk_43_method_2_code (2 : Nat) (Option.some Jvm.ClassFile.FieldType.char), Jvm.Cond.code ({ cls := "java/lang/String", name := "checkIndex", desc := "(II)V" } : Jvm.MethodName) jdk_42_method_155_code (2 : Nat) (Option.none : Option Jvm.ClassFile.FieldType), Jvm.Cond.code ({ cls := "jdk/internal/util/Preconditions", name := "checkIndex", desc := "(IILjava/util/function/BiFunction;)I" } : Jvm.MethodName) jdk_41_method_11_code (3 : Nat) (Option.some Jvm.ClassFile.FieldType.int), Jvm.Cond.code ({ cls := "java/lang/StringUTF16", name := "toBytes", desc := "([CII)[B" } : Jvm.MethodName) jdk_52_method_14_code (5 : Nat) (Option.some (Jvm.ClassFile.FieldType.array Jvm.ClassFile.FieldType.byte)), Jvm.Cond.code ({ cls := "java/lang/StringUTF16", name := "newBytesFor", desc := "(I)[B" } : Jvm.MethodName) jdk_52_method_2_code (1 : Nat) (Option.some (Jvm.ClassFile.FieldType.array Jvm.ClassFile.FieldType.byte)), Jvm.Cond.code ({ cls := "java/lang/StringUTF16", name := "newBytesLength", desc := "(I)I" } : Jvm.MethodName) jdk_52_method_3_code (1 : Nat) (Option.some Jvm.ClassFile.FieldType.int), Jvm.Cond.code ({ cls := "java/lang/StringUTF16", name := "putChar", desc := "([BII)V" } : Jvm.MethodName) jdk_52_method_4_code (3 : Nat) (Option.none : Option Jvm.ClassFile.FieldType), Jvm.Cond.code ({ cls := "java/lang/StringUTF16", name := "getChar", desc := "([BI)C" } : Jvm.MethodName) jdk_52_method_5_code (2 : Nat) (Option.some Jvm.ClassFile.FieldType.char), Jvm.Cond.code ({ cls := "java/lang/StringUTF16", name := "charAt", desc := "([BI)C" } : Jvm.MethodName) jdk_52_method_83_code (2 : Nat) (Option.some Jvm.ClassFile.FieldType.char), Jvm.Cond.code ({ cls := "java/lang/StringUTF16", name := "checkIndex", desc := "(I[B)V" } : Jvm.MethodName) jdk_52_method_91_code (2 : Nat) (Option.none : Option Jvm.ClassFile.FieldType), Jvm.Cond.code ({ cls := "java/lang/StringUTF16", name := "length", desc := "([B)I" } : Jvm.MethodName) jdk_52_method_6_code (1 : Nat) (Option.some Jvm.ClassFile.FieldType.int)]
set_option maxRecDepth 65536 in
theorem codes_eq : words1.filter isCode = codes1 := rfl
theorem w_codes : ∀ c ∈ words1.filter isCode, c.before args0 about1 = true := by
  rw [codes_eq]
  intro c hc
  simp only [codes1, List.mem_cons, List.not_mem_nil, or_false] at hc
  rcases hc with rfl | rfl | rfl | rfl | rfl | rfl | rfl | rfl | rfl | rfl | rfl | rfl | rfl | rfl | rfl | rfl | rfl | rfl | rfl | rfl | rfl | rfl | rfl | rfl | rfl | rfl
  · exact w_c0
  · exact w_c1
  · exact w_c2
  · exact w_c3
  · exact w_c4
  · exact w_c5
  · exact w_c6
  · exact w_c7
  · exact w_c8
  · exact w_c9
  · exact w_c10
  · exact w_c11
  · exact w_c12
  · exact w_c13
  · exact w_c14
  · exact w_c15
  · exact w_c16
  · exact w_c17
  · exact w_c18
  · exact w_c19
  · exact w_c20
  · exact w_c21
  · exact w_c22
  · exact w_c23
  · exact w_c24
  · exact w_c25
set_option maxRecDepth 65536 in
theorem w_t1 : (words1.take 24).all (fun c => isCode c || c.before args0 about1) = true := by decide +kernel
set_option maxRecDepth 65536 in
theorem w_t2 : ((words1.drop 24).take 24).all (fun c => isCode c || c.before args0 about1) = true := by decide +kernel
set_option maxRecDepth 65536 in
theorem w_t3 : (((words1.drop 24).drop 24).take 24).all (fun c => isCode c || c.before args0 about1) = true := by decide +kernel
set_option maxRecDepth 65536 in
theorem w_t4 : ((((words1.drop 24).drop 24).drop 24).take 24).all (fun c => isCode c || c.before args0 about1) = true := by decide +kernel
set_option maxRecDepth 65536 in
theorem w_t5 : ((((words1.drop 24).drop 24).drop 24).drop 24).all (fun c => isCode c || c.before args0 about1) = true := by decide +kernel
theorem w_tables : (allAtoms (Jvm.Cond.code x code maxLocals ret :: tables_1)).before args0 about1 = true := by
  rw [allAtoms_all]
  show words1.all (fun c => c.before args0 about1) = true
  refine all_split ?_ w_codes
  rw [← List.take_append_drop 24 words1, List.all_append, w_t1, ← List.take_append_drop 24 (words1.drop 24), List.all_append, w_t2, ← List.take_append_drop 24 ((words1.drop 24).drop 24), List.all_append, w_t3, ← List.take_append_drop 24 (((words1.drop 24).drop 24).drop 24), List.all_append, w_t4, w_t5]
  rfl
set_option maxRecDepth 65536 in
theorem w_rest : rest_1_c.before args0 about1 = true := by decide +kernel
set_option maxRecDepth 65536 in
theorem w_case : (Jvm.Cond.and given_1 narrow_1).before args0 about1 = true := by decide +kernel
set_option maxRecDepth 65536 in
theorem w_consts : constsHeld consts_1 about1 := Jvm.Lit.constsHeldB_iff.mp (by decide +kernel)
theorem w_applies : (headSpec (Jvm.Cond.code x code maxLocals ret :: tables_1) room_1).applies x e0.platform about1 = true :=
  (Spec.applies_iff w_frames).mpr ⟨w_running, w_runnable, w_alone, w_named, w_hears, w_ripe, w_room, w_tables⟩
theorem atStart : AtStart classFile x code maxLocals ret World_1 tables_1 room_1 Calls_1 rest_1 Pre_1 launch0 p0 e0 about1 theMethod args0 below0 :=
  ⟨lists_1, trivial, launch0.admits_env _ _ _, launch0.least_env, fairChoices_fair.cas, fairChoices_fair.clock, w_frames, w_args, w_heap, w_applies, ⟨w_consts, trivial⟩, w_rest, w_case⟩
end start1
theorem witness_1 : WitnessClaimed_1 := ⟨start1.p0, start1.e0, start1.about1, start1.theMethod, start1.args0, start1.below0, start1.atStart⟩
end Jvm.Pilot.@@N@@
