import JvmDerived
import JvmDerived.Pilot.@@N@@Statement
import JvmDerived.Pilot.@@N@@Code
set_option linter.unusedVariables false
set_option linter.unusedSimpArgs false
set_option maxRecDepth 65536
set_option maxHeartbeats 40000000
namespace Jvm.Pilot.@@N@@
open Jvm Jvm.ClassFile Sem Op Lib Jvm.Free Jvm.Stand Jvm.LawKit Jvm.RoadKit Bundle Jvm.Pilot.@@N@@.Jvm.D
/-! own: the walk by continuation -/
def Go (p : Program) (e : Env) (below : List Frame) (A : State) (G : Outcome → State → Prop) : Prop :=
  ∃ s₂ o, Steps p.tables e below A s₂ ∧ s₂.status = .running ∧ Ended s₂ below o ∧ G o s₂
section Own
variable {p : Program} {l : Launch} {e : Env} {R : Room} {s : State} {m : MethodId} {args : Array Value} {below : List Frame} {meth : Method} {c : Code} {T : State} {locs : List Loc} {cells slots : Nat} {G : Outcome → State → Prop} {A B : State}
theorem go_of (h : ∀ t, Steps p.tables e below B t → Steps p.tables e below A t) (k : Go p e below B G) : Go p e below A G := by
  obtain ⟨s₂, o, h1, h2⟩ := k; exact ⟨s₂, o, h _ h1, h2⟩
theorem go_tr (h : Steps p.tables e below A B) (k : Go p e below B G) : Go p e below A G := go_of (fun _ q => h.trans q) k
theorem go_end (X : Stand p l e R s m args below meth c T locs cells slots) {v : Option Value} (hv : meth.sig.returnType = none → v = none) (hlocks : meth.locks = false) {C S : Nat} (hc : cells ≤ C) (hs : slots ≤ S)
    {Q : Option Value → Heap → List Loc → Prop} (hQ : Q v T.heap locs) {f : JFrame}
    (st : ∀ fs, (∀ (f : JFrame) (acts : List Action), f.method = m → f.locked = none → f.entered = [] → (doReturn e (T.setTop f) acts v).1 = T.setFrames fs) → Steps p.tables e below (T.setTop f) (T.setFrames fs)) :
    Go p e below (T.setTop f) (fun o U' => ∃ v L, o = .returned v ∧ Q v U'.heap L ∧ FrameEnd s o U' L C S) := by
  obtain ⟨fs, hr, hrun, hended, hW, hsame⟩ := X.leave (v := v) hv hlocks
  exact ⟨_, _, st fs hr, hrun, hended, _, _, rfl, hQ, ⟨_, rfl⟩, hW, hsame.mono hc hs⟩
theorem go_endW {vm : Vm} (X : Stand p l e R (s.setVm vm) m args below meth c T locs cells slots) {k : Nat} (hS : s.Since vm k) (hk : k ≤ T.heap.size) {v : Option Value} (hv : meth.sig.returnType = none → v = none) (hlocks : meth.locks = false) {C S : Nat} (hc : cells ≤ C) (hs : slots ≤ S)
    {Q : Option Value → Heap → List Loc → Prop} (hQ : Q v T.heap locs) {f : JFrame}
    (st : ∀ fs, (∀ (f : JFrame) (acts : List Action), f.method = m → f.locked = none → f.entered = [] → (doReturn e (T.setTop f) acts v).1 = T.setFrames fs) → Steps p.tables e below (T.setTop f) (T.setFrames fs)) :
    Go p e below (T.setTop f) (fun o U' => ∃ v L, o = .returned v ∧ Q v U'.heap L ∧ ReturnedEndW s o U' L C S) := by
  obtain ⟨fs, hr, hrun, hended, e1, e2, e3, e4⟩ := X.leaveW hS hk (v := v) hv hlocks
  exact ⟨_, _, st fs hr, hrun, hended, _, _, rfl, hQ, e1, e2, e3, e4.mono hc hs⟩
theorem go_endH {Z : State} {a0 : Array Value} {EL : List (String × Nat)} {vm : Vm} {h0 h1 : Heap} (X : Stand p l e R (s.setVm vm) m args below meth c T locs cells slots) (hZ : Z.Warmed39 vm) (hEL : EW Z a0 EL) (HC : CHr Z EL s.vm h0 vm h1) (hh : s.heap = h0) (eT : T.heap = h1) {k : Nat} (hS : s.Since vm k) (hk : k ≤ T.heap.size) {v : Option Value} (hv : meth.sig.returnType = none → v = none) (hlocks : meth.locks = false) {C S : Nat} (hc : cells ≤ C) (hs : slots ≤ S)
    {Q : Option Value → Heap → List Loc → Prop} (hQ : Q v T.heap locs) {f : JFrame}
    (st : ∀ fs, (∀ (f : JFrame) (acts : List Action), f.method = m → f.locked = none → f.entered = [] → (doReturn e (T.setTop f) acts v).1 = T.setFrames fs) → Steps p.tables e below (T.setTop f) (T.setFrames fs)) :
    Go p e below (T.setTop f) (fun o U' => ∃ v L, o = .returned v ∧ Q v U'.heap L ∧ CHr Z EL s.vm s.heap U'.vm U'.heap ∧ ReturnedEndW s o U' L C S) := by
  obtain ⟨fs, hr, hrun, hended, e1, e2, e3, e4⟩ := X.leaveW hS hk (v := v) hv hlocks
  refine ⟨_, _, st fs hr, hrun, hended, _, _, rfl, hQ, ?_, e1, e2, e3, e4.mono hc hs⟩
  subst hh eT
  have q := HC.trans (CHv.at X hZ hEL HC.1)
  exact q
theorem own_retI (X : Stand p l e R s m args below meth c T locs cells slots) (hx : p.tables.exec = Jvm.exec) {pc : Nat} {Ls : Array Slot} {z : Int32} {rest : List Value} (hret : meth.sig.returnType = some .int) (hd : decode c.code pc = .ok (.ireturn, 1)) {fs : List Frame}
    (hl : ∀ (f : JFrame) (acts : List Action), f.method = m → f.locked = none → f.entered = [] → (doReturn e (T.setTop f) acts (some (.int z))).1 = T.setFrames fs) : Steps p.tables e below (T.setTop (mkF m pc Ls (.int z :: rest))) (T.setFrames fs) :=
  retOut X hx hret rfl (Or.inl ⟨rfl, Or.inl rfl, _, rfl⟩) hd hl
theorem own_retL (X : Stand p l e R s m args below meth c T locs cells slots) (hx : p.tables.exec = Jvm.exec) {pc : Nat} {Ls : Array Slot} {z : Int64} {rest : List Value} (hret : meth.sig.returnType = some .long) (hd : decode c.code pc = .ok (.lreturn, 1)) {fs : List Frame}
    (hl : ∀ (f : JFrame) (acts : List Action), f.method = m → f.locked = none → f.entered = [] → (doReturn e (T.setTop f) acts (some (.long z))).1 = T.setFrames fs) : Steps p.tables e below (T.setTop (mkF m pc Ls (.long z :: rest))) (T.setFrames fs) :=
  retOut X hx hret rfl (Or.inr (Or.inl ⟨rfl, rfl, _, rfl⟩)) hd hl
theorem own_retA (X : Stand p l e R s m args below meth c T locs cells slots) (hx : p.tables.exec = Jvm.exec) {pc : Nat} {Ls : Array Slot} {w : Value} {t : FieldType} {rest : List Value} (hret : meth.sig.returnType = some t) (ht : t.isReference = true) (hw : w.isRef = true) (hd : decode c.code pc = .ok (.areturn, 1)) {fs : List Frame}
    (hl : ∀ (f : JFrame) (acts : List Action), f.method = m → f.locked = none → f.entered = [] → (doReturn e (T.setTop f) acts (some w)).1 = T.setFrames fs) : Steps p.tables e below (T.setTop (mkF m pc Ls (w :: rest))) (T.setFrames fs) :=
  retOut X hx hret (by cases t <;> first | rfl | (cases ht; done)) (Or.inr (Or.inr (Or.inr (Or.inr ⟨rfl, ht, hw⟩)))) hd hl
theorem own_fldI {t : Term} {C n d : String} {k : Int32} {a : Addr} (ev : t.eval args s none [] s = some (.ref a)) (h : (Jvm.Cond.eq (.field t C n d) (.int k)).value args s none s [] = some true) : Fld s s.heap a C n d (.int k) := by
  obtain ⟨x, y, h1, h2, -, kyx⟩ := cmp_v (Or.inl h)
  have e2 : y = .int k := (Option.some.inj (h2.symm.trans (Term.int_eval k)))
  subst e2
  obtain ⟨z, rfl⟩ := kyx
  have hz : z = k := by simpa [Cond.value, h1, Term.int_eval] using h
  subst hz
  rw [fld_at ev] at h1
  exact Fld.start h1
theorem own_tsw (X : Stand p l e R s m args below meth c T locs cells slots) (hexec : p.tables.exec = Jvm.exec) {g : JFrame} (hg : g.method = m) {k : Int32} {rest : List Value} (hstack : g.stack = .int k :: rest) {default low high : Int} {offsets : Array Int} {len pc0 pc' : Nat} (hpc : g.pc = pc0)
    (hdg : decode c.code g.pc = .ok (.tableswitch default low high offsets, len)) (ki : Int) (hk : k.toInt = ki) (hin : ¬ (ki < low ∨ ki > high)) (off : Int) (hoffs : offsets[(ki - low).toNat]? = some off) (hoff : 0 ≤ (pc0 : Int) + off) (hp : ((pc0 : Int) + off).toNat = pc') {target : State}
    (hr : Steps p.tables e below (T.setTop { g with pc := pc', stack := rest }) target) : Steps p.tables e below (T.setTop g) target := by
  subst hpc hk hp; exact X.tableswitchIn hexec hg hstack hdg hin hoffs hoff target hr
theorem own_ne {a b : Addr} (h : @Ne Nat a b) : a ≠ b := h
theorem own_lt {a b : Nat} (h : @LT.lt Nat instLTNat a b) : @LT.lt Nat instLTNat a b := h
theorem own_le {a b : Nat} (h : @LE.le Nat instLENat a b) : @LE.le Nat instLENat a b := h
theorem own_nlt {a : Addr} {n : Nat} (h : a < n) : @LT.lt Nat instLTNat a n := h
theorem own_nle {a : Nat} {b : Addr} (h : a ≤ b) : @LE.le Nat instLENat a b := h
theorem own_inskeep {Z : State} {h h' : Heap} {a : Addr} {C : String} {ws : List Addr} (F : Ins Z h a C true) (K : Keep h h' ws) : Ins Z h' a C true := by
  obtain ⟨cell, cT, h1, h2, h3⟩ := F; obtain ⟨c', q, r1, r2, -⟩ := K.2.2 a cell h1; exact ⟨c', cT, q, h2, by rw [r1, r2]; exact h3⟩
theorem own_inslt {Z : State} {h : Heap} {a : Addr} {C : String} {b : Bool} (F : Ins Z h a C b) : a < h.size := by obtain ⟨_, _, h1, -⟩ := F; exact (Array.getElem?_eq_some_iff.mp h1).1
theorem own_kx {h h' : Heap} (K : Keep h h' []) : Ext h h' := ⟨K.1, fun a c q => K.2.1 a c q nin0⟩
theorem own_cache {t : Term} {C : String} {q : Jvm.Cond} {cl : Cell} {a : Addr} {ty : FieldType} (ev : ∀ idx, t.eval args s none idx s = some (.ref a)) (Ar : Arr s s.heap a cl ty)
    (h : (Jvm.Cond.all t (.and (.exactly (.elem t (.index 0)) C) q)).value args s none s [] = some true) (hz : cl.slots.size = 256) : ∀ i, i < 256 → ∃ w, cl.slots[i]? = some (.ref w) ∧ Exa s s.heap w C := fun i hi => by
  have hat : s.arrayAt? a = some cl := Arr.fin (Vm.Alike.refl _) Ar
  have hv := Cond.all_elim (ev []) hat h i (by rw [hz]; exact hi)
  obtain ⟨h1, -⟩ := and_e hv
  obtain ⟨w, ew⟩ := exa_v h1
  have ex := exa_at ew h1
  obtain ⟨p1, p2⟩ := IntBox.place_nonneg i hi
  rw [elem_f (ev [i]) (j := i.toInt32) rfl hat p1, p2] at ew
  exact ⟨w, ew, ex⟩
theorem own_stev {C n d : String} {v : Value} (h : (Term.static C n d).eval args s none [] s = some v) (idx : List Nat) : (Term.static C n d).eval args s none idx s = some v := h
theorem own_len {t : Term} {a : Addr} {cl : Cell} {ty : FieldType} {k : Int32} (ev : t.eval args s none [] s = some (.ref a)) (Ar : Arr s s.heap a cl ty) (h : (Jvm.Cond.eq (.length t) (.int k)).value args s none s [] = some true) (hk : ¬ k < 0) : cl.slots.size = k.toNatClampNeg := by
  have hat : s.arrayAt? a = some cl := Arr.fin (Vm.Alike.refl _) Ar
  obtain ⟨x, y, h1, h2, -, kyx⟩ := cmp_v (Or.inl h)
  have e2 : y = .int k := (Option.some.inj (h2.symm.trans (Term.int_eval k)))
  subst e2
  obtain ⟨z, rfl⟩ := kyx
  have hz : z = k := by simpa [Cond.value, h1, Term.int_eval] using h
  subst hz
  have hl : cl.slots.size < 2 ^ 31 := by
    by_cases q : cl.slots.size < 2 ^ 31
    · exact q
    · simp [Term.eval, ev, hat, q] at h1
  rw [len_f ev hat hl] at h1
  have h3 : cl.slots.size.toInt32 = z := by simpa using h1
  rw [← h3]
  have h4 := len_toInt hl
  simp only [Int32.toNatClampNeg, h4]; rfl
end Own
abbrev TW (a0 : Array Value) (Z : State) : Prop := ∀ d ∈ tables_1, d.before a0 Z = true
abbrev own_MF (l : Launch) (Z : State) (y : MethodName) (bytes : ByteArray) (maxL : Nat) (ret : Option FieldType) (ws : List Jvm.Cond) (rm : Room) (A : Array Value) (h0 : Heap) (Q : Option Value → Heap → List Loc → Prop) : Prop := MetFree l y (head1 (Jvm.Cond.code y bytes maxL ret :: ws) rm) (fun a U => a = A ∧ Z.Warmed39 U.vm ∧ U.heap = h0) (fun _ _ _ _ _ => True) (fun _ U o U' => ∃ v L, o = .returned v ∧ Q v U'.heap L ∧ FrameEnd U o U' L rm.cells rm.slots)
abbrev own_MFW (l : Launch) (Z : State) (y : MethodName) (bytes : ByteArray) (maxL : Nat) (ret : Option FieldType) (ws : List Jvm.Cond) (rm : Room) (A : Array Value) (h0 : Heap) (Q : Option Value → Heap → List Loc → Prop) : Prop := MetFree l y (head1 (Jvm.Cond.code y bytes maxL ret :: ws) rm) (fun a U => a = A ∧ Z.Warmed39 U.vm ∧ U.heap = h0) (fun _ _ _ _ _ => True) (fun _ U o U' => ∃ v L, o = .returned v ∧ Q v U'.heap L ∧ ReturnedEndW U o U' L rm.cells rm.slots)
abbrev MN0 : MethodName := ⟨"com/example/grantline/grantline/Permission$Key", "<init>", "(ILjava/lang/String;)V"⟩
abbrev MN1 : MethodName := ⟨"com/example/grantline/grantline/Permission$Key", "equals", "(Ljava/lang/Object;)Z"⟩
abbrev MN2 : MethodName := ⟨"com/example/grantline/grantline/PermissionKeyEqualsPinLaw", "mk", "(ICC)Ljava/lang/String;"⟩
abbrev MN3 : MethodName := ⟨"java/lang/String", "<init>", "([C)V"⟩
abbrev MN4 : MethodName := ⟨"java/lang/String", "<init>", "([CIILjava/lang/Void;)V"⟩
abbrev MN5 : MethodName := ⟨"java/lang/String", "equals", "(Ljava/lang/Object;)Z"⟩
abbrev MN6 : MethodName := ⟨"java/lang/StringLatin1", "equals", "([B[B)Z"⟩
theorem own_wd {a0 : Array Value} {Z : State} (hw : TW a0 Z) (i : Nat) {d : Jvm.Cond} (h : tables_1[i]? = some d) : d.before a0 Z = true := hw _ (List.mem_of_getElem? h)
abbrev own_R (f c s l : Nat) : Room := { frames := f, cells := c, slots := s, locals := l }
theorem own_wS {a0 : Array Value} {Z : State} (hw : ∀ d ∈ tables_1, d.before a0 Z = true) : ∀ a ∈ Bundle.stringAtoms, a.before a0 Z = true := by
  intro a ha
  simp only [Bundle.stringAtoms, List.mem_cons, List.not_mem_nil, or_false] at ha
  rcases ha with rfl | rfl | rfl | rfl | rfl | rfl | rfl
  · exact hw _ (List.mem_of_getElem? (i := 6) rfl)
  · exact hw _ (List.mem_of_getElem? (i := 5) rfl)
  · exact hw _ (List.mem_of_getElem? (i := 19) rfl)
  · exact hw _ (List.mem_of_getElem? (i := 20) rfl)
  · exact hw _ (List.mem_of_getElem? (i := 21) rfl)
  · exact hw _ (List.mem_of_getElem? (i := 22) rfl)
  · exact hw _ (List.mem_of_getElem? (i := 23) rfl)
theorem own_fI {a0 : Array Value} {Z : State} {K : String} {n : Nat} (w : (Cond.instantiable K n).before a0 Z = true) : ∃ t k, Z.vm.findClass K = some t ∧ Z.vm.classes[t]? = some k ∧ k.kind = .ordinary ∧ k.isInterface = false := by
  obtain ⟨c, k, h1, h2, h3, h4, -⟩ := Cond.instantiable_spec w
  exact ⟨c, k, h1, h2, h3, by cases q : k.isInterface <;> simp_all⟩
theorem own_nsroot {a0 : Array Value} {Z : State} {O K : String} {n : Nat} (w : (Cond.noSuperclass O).before a0 Z = true) (wk : (Cond.instantiable K n).before a0 Z = true) (hn : O ≠ K) : NS Z O K := by
  obtain ⟨c, k, h1, h2, h3, -, -⟩ := Cond.noSuperclass_spec w
  obtain ⟨t, kt, g1, -⟩ := own_fI wk
  have ne := ids_ne h1 g1 hn
  refine ⟨c, t, h1, g1, fun fuel => ?_⟩
  cases fuel with
  | zero => rfl
  | succ f => simp [Vm.isSubclassAux, ne, h2, h3]
theorem own_nsno {a0 : Array Value} {Z : State} {C S K : String} {n : Nat} (w : (Cond.superclass C S).before a0 Z = true) (wk : (Cond.instantiable K n).before a0 Z = true) (nn : NS Z C K) (hn : C ≠ K) : ∃ c t, Z.vm.findClass C = some c ∧ Z.vm.findClass K = some t ∧ Z.vm.assignable c t = false := by
  obtain ⟨c, t, h0, g0, n3⟩ := nn
  obtain ⟨p, k, kp, h1, h2, h3, h4, h5, -, h7⟩ := Cond.superclass_spec h0 w
  obtain ⟨t', k', g1, g2, g5, g7⟩ := own_fI wk
  cases g0.symm.trans g1
  have ne := ids_ne h0 g0 hn
  refine ⟨c, t, h0, g0, ?_⟩
  show Z.vm.assignableAux (255 + 1) c t = false
  simp [Vm.assignableAux, ne, h2, g2, h5, g5, g7, Vm.isSubclass, n3]

theorem own_safe_null {Z : State} {EL : List (String × Nat)} {vm : Vm} {h : Heap} {x : Addr} (hal : Z.vm.Alike vm) (E : Exa Z h x "java/lang/String") (F : Fld Z h x "java/lang/String" "value" "[B" .null) : Safe Z EL vm h x := fun B => by
  obtain ⟨p, -, u, a, -, q, -, G, rfl | rfl⟩ := B
  · obtain ⟨cS, ⟨⟨s1, s2, s3, ⟨cv, kv, iv, s4, s4'⟩, ⟨cc, kc, ic, s5, s5'⟩, s6, s7, s8, -⟩, hfS, hcS⟩, -⟩ := G
    obtain ⟨cell, cf, k, i, f, f1, f2, f3, f4, f5, f6, f7⟩ := F
    obtain ⟨kv', z4⟩ := ff_back (U := Wst Z vm h) hal s4
    cases (show h[q.sa]? = some q.sC from s1).symm.trans f1
    cases z4.symm.trans f2
    cases s8.symm.trans f7
  · obtain ⟨cell, k, e1, e2, e3, -, -⟩ := E
    cases (show h[q.sd]? = some q.SA from G.hd).symm.trans e1
    obtain ⟨cS, -, -, f, -⟩ := G
    have f' : vm.findClass "[B" = some q.SA.cls := f
    rw [hal.findClass] at f'
    exact ids_ne f' e2 (by decide) rfl
theorem own_safe_arv {Z : State} {EL : List (String × Nat)} {vm : Vm} {h : Heap} {x : Addr} {k : ClassId} {ty : FieldType} {n : Int32} {vs : List Value} {d : Value} (hal : Z.vm.Alike vm) (A : Arv Z h x k ty n vs d) (ht : ty ≠ .byte) : Safe Z EL vm h x := by
  obtain ⟨cl, Ar, -⟩ := A; exact Safe.arr hal Ar ht
/-- an ordinary object that is no String -/
def Ord (Z : State) (h : Heap) (o : Addr) : Prop := ∃ (cell : Cell) (k : Class), h[o]? = some cell ∧ Z.vm.classes[cell.cls]? = some k ∧ k.kind = .ordinary ∧ Z.vm.findClass "java/lang/String" ≠ some cell.cls
theorem Ord.of {Z : State} {h : Heap} {o : Addr} {a0 : Array Value} {C : String} {n : Nat} (E : Exa Z h o C) (w : (Cond.instantiable C n).before a0 Z = true) (hn : C ≠ "java/lang/String") : Ord Z h o := by
  obtain ⟨cell, k, e1, e2, e3, -, -⟩ := E
  obtain ⟨t, k', f1, f2, f3, -⟩ := own_fI w
  cases e2.symm.trans f1
  cases e3.symm.trans f2
  exact ⟨cell, k, e1, e3, f3, fun q => ids_ne e2 q hn rfl⟩
theorem Ord.ne {Z : State} {h : Heap} {o t : Addr} {k : ClassId} {ty : FieldType} {n : Int32} {vs : List Value} {d : Value} (F : Ord Z h o) (A : Arv Z h t k ty n vs d) : t ≠ o := fun e => by
  subst e
  obtain ⟨cell, kk, f1, f2, f3, -⟩ := F
  obtain ⟨c, ⟨a1, ⟨-, k2, a2, comp, a3⟩, -⟩, -⟩ := A
  cases f1.symm.trans a1
  cases f2.symm.trans a2
  rw [f3] at a3; cases a3
theorem Ord.ne' {Z : State} {h : Heap} {o a : Addr} (F : Ord Z h o) (E : Exa Z h a "java/lang/String") : a ≠ o := fun e => by
  subst e
  obtain ⟨cell, kk, f1, f2, f3, f4⟩ := F
  obtain ⟨c, k, e1, e2, -⟩ := E
  cases f1.symm.trans e1
  exact f4 e2

def own_EL : List (String × Nat) := [("java/lang/String", 7)]
abbrev own_MFH (l : Launch) (Z : State) (y : MethodName) (bytes : ByteArray) (maxL : Nat) (ret : Option FieldType) (ws : List Jvm.Cond) (rm : Room) (A : Array Value) (h0 : Heap) (Q : Option Value → Heap → List Loc → Prop) : Prop := MetFree l y (head1 (Jvm.Cond.code y bytes maxL ret :: ws) rm) (fun a U => a = A ∧ Z.Warmed39 U.vm ∧ U.heap = h0 ∧ CHv Z own_EL U.vm h0) (fun _ _ _ _ _ => True) (fun _ U o U' => ∃ v L, o = .returned v ∧ Q v U'.heap L ∧ CHr Z own_EL U.vm U.heap U'.vm U'.heap ∧ ReturnedEndW U o U' L rm.cells rm.slots)
theorem own_EW {a0 : Array Value} {Z : State} (hw : ∀ d ∈ tables_1, d.before a0 Z = true) : EW Z a0 own_EL := EW.cons (hw _ (List.mem_of_getElem? (i := 18) rfl)) (by decide) (EW.nil)
abbrev own_b8 (c : Int32) : Int32 := c.toInt8.toInt32
theorem own_bb (c : Int32) : c.toInt8.toInt32.toInt8.toInt32 = c.toInt8.toInt32 := by simp
/-- a String of Latin-1 chars -/
def Str (Z : State) (h : Heap) (a : Addr) (n : Int32) (cs : List Int32) : Prop := ∃ (t : Addr) (k : ClassId), Exa Z h a "java/lang/String" ∧ Fld Z h a "java/lang/String" "coder" "B" (.int 0) ∧ Fld Z h a "java/lang/String" "value" "[B" (.ref t) ∧ Arv Z h t k .byte n (cs.map fun c => .int (own_b8 c)) (.int 0) ∧ (∀ c ∈ cs, ¬ c < 0 ∧ ¬ (255 : Int32) < c)
theorem Str.ext {Z : State} {h h' : Heap} {a : Addr} {n : Int32} {cs : List Int32} (F : Str Z h a n cs) (E : Ext h h') : Str Z h' a n cs := by
  obtain ⟨t, k, f1, f2, f3, f4, f5⟩ := F; exact ⟨t, k, f1.ext E, f2.ext E, f3.ext E, f4.ext E, f5⟩
theorem Str.lt {Z : State} {h : Heap} {a : Addr} {n : Int32} {cs : List Int32} (F : Str Z h a n cs) : a < h.size := by obtain ⟨t, k, f1, -⟩ := F; exact f1.lt
theorem Str.exa {Z : State} {h : Heap} {a : Addr} {n : Int32} {cs : List Int32} (F : Str Z h a n cs) : Exa Z h a "java/lang/String" := by obtain ⟨t, k, f1, -⟩ := F; exact f1
theorem own_allc {P : Int32 → Prop} {c : Int32} {cs : List Int32} (h : P c) (r : ∀ x ∈ cs, P x) : ∀ x ∈ c :: cs, P x := fun x q => (List.mem_cons.mp q).elim (fun e => e ▸ h) (r x)
theorem own_narc {c : Int32} (h : ¬ c < 0 ∧ ¬ (255 : Int32) < c) : nar .char c = c := by
  have h1 := c_i2c c
  apply Int32.toInt_inj.mp
  have e0 : (0 : Int32).toInt = 0 := rfl
  have e1 : (255 : Int32).toInt = 255 := rfl
  have h2 := h.1; have h3 := h.2
  rw [Int32.lt_iff_toInt_lt] at h2 h3
  show c.toUInt32.toUInt16.toUInt32.toInt32.toInt = c.toInt
  omega
theorem own_b255 {c : Int32} (h : ¬ c < 0 ∧ ¬ (255 : Int32) < c) : (own_b8 c &&& (255 : Int32)).toUInt32.toUInt16.toUInt32.toInt32 = c := by
  have h1 := c_i2b c
  have h4 : (own_b8 c &&& (255 : Int32)).toInt = (own_b8 c).toInt % 256 := c_mask (own_b8 c) 255 8 (by decide) (by decide)
  have h5 := c_i2c (own_b8 c &&& (255 : Int32))
  apply Int32.toInt_inj.mp
  have e0 : (0 : Int32).toInt = 0 := rfl
  have e1 : (255 : Int32).toInt = 255 := rfl
  have h2 := h.1; have h3 := h.2
  rw [Int32.lt_iff_toInt_lt] at h2 h3
  have e8 : (own_b8 c).toInt = c.toInt8.toInt32.toInt := rfl
  omega
theorem own_b8inj {c d : Int32} (h : ¬ c < 0 ∧ ¬ (255 : Int32) < c) (h' : ¬ d < 0 ∧ ¬ (255 : Int32) < d) (e : own_b8 c = own_b8 d) : c = d := by
  rw [← own_b255 h, ← own_b255 h', e]

theorem Str.keep {Z : State} {h h' : Heap} {a : Addr} {ws : List Addr} {n : Int32} {cs : List Int32} (F : Str Z h a n cs) (K : Keep h h' ws) (q : ∀ o ∈ ws, Ord Z h o) : Str Z h' a n cs := by
  obtain ⟨t, k, f1, f2, f3, f4, f5⟩ := F
  have na : a ∉ ws := fun m => (q a m).ne' f1 rfl
  have nt : t ∉ ws := fun m => (q t m).ne f4 rfl
  exact ⟨t, k, f1.keep K, f2.keep K na, f3.keep K na, f4.keep K nt, f5⟩

def own_eqv (cs ds : List Int32) : Int32 := if cs = ds then 1 else 0
theorem own_eqv0 (cs ds : List Int32) : own_eqv cs ds = 0 ↔ ¬ cs = ds := by unfold own_eqv; by_cases h : cs = ds <;> simp [h]
theorem own_eqmap : ∀ (cs ds : List Int32), (∀ c ∈ cs, ¬ c < 0 ∧ ¬ (255 : Int32) < c) → (∀ c ∈ ds, ¬ c < 0 ∧ ¬ (255 : Int32) < c) → (cs.map own_b8 = ds.map own_b8 ↔ cs = ds)
  | [], [], _, _ => by simp
  | [], _ :: _, _, _ => by simp
  | _ :: _, [], _, _ => by simp
  | c :: cs, d :: ds, h, h' => by
    have ih := own_eqmap cs ds (fun x q => h x (List.mem_cons_of_mem _ q)) (fun x q => h' x (List.mem_cons_of_mem _ q))
    simp only [List.map_cons, List.cons.injEq, ih]
    constructor
    · rintro ⟨e, r⟩; exact ⟨own_b8inj (h c (List.mem_cons_self ..)) (h' d (List.mem_cons_self ..)) e, r⟩
    · rintro ⟨rfl, r⟩; exact ⟨rfl, r⟩

def StrL (Z : State) (h : Heap) (a : Addr) : List Int32 → Prop
  | [] => Str Z h a 0 []
  | [c0] => Str Z h a 1 [c0]
  | [c0, c1] => Str Z h a 2 [c0, c1]
  | _ => False
theorem StrL.ext' {Z : State} {h h' : Heap} {a : Addr} (E : Ext h h') : ∀ {cs : List Int32}, StrL Z h a cs → StrL Z h' a cs
  | [], F => Str.ext F E
  | [c0], F => Str.ext F E
  | [c0, c1], F => Str.ext F E
  | _ :: _ :: _ :: _, F => F.elim
theorem StrL.keep' {Z : State} {h h' : Heap} {a : Addr} {ws : List Addr} (K : Keep h h' ws) (q : ∀ o ∈ ws, Ord Z h o) : ∀ {cs : List Int32}, StrL Z h a cs → StrL Z h' a cs
  | [], F => Str.keep F K q
  | [c0], F => Str.keep F K q
  | [c0, c1], F => Str.keep F K q
  | _ :: _ :: _ :: _, F => F.elim
theorem StrL.exa' {Z : State} {h : Heap} {a : Addr} : ∀ {cs : List Int32}, StrL Z h a cs → Exa Z h a "java/lang/String"
  | [], F => Str.exa F
  | [c0], F => Str.exa F
  | [c0, c1], F => Str.exa F
  | _ :: _ :: _ :: _, F => F.elim
theorem StrL.keep {Z : State} {h h' : Heap} {a : Addr} {ws : List Addr} {cs : List Int32} (F : StrL Z h a cs) (K : Keep h h' ws) (q : ∀ o ∈ ws, Ord Z h o) : StrL Z h' a cs := StrL.keep' K q F
theorem StrL.exa {Z : State} {h : Heap} {a : Addr} {cs : List Int32} (F : StrL Z h a cs) : Exa Z h a "java/lang/String" := StrL.exa' F
theorem StrL.ext {Z : State} {h h' : Heap} {a : Addr} {cs : List Int32} (F : StrL Z h a cs) (E : Ext h h') : StrL Z h' a cs := StrL.ext' E F
theorem d16_0 : decode jdk_43_method_13_code 0 = .ok (.aload_n 0, 1) := by decide +kernel
theorem d16_1 : decode jdk_43_method_13_code 1 = .ok (.arraylength, 1) := by decide +kernel
theorem d16_2 : decode jdk_43_method_13_code 2 = .ok (.aload_n 1, 1) := by decide +kernel
theorem d16_3 : decode jdk_43_method_13_code 3 = .ok (.arraylength, 1) := by decide +kernel
theorem d16_4 : decode jdk_43_method_13_code 4 = .ok (.if_icmp .ne 30, 3) := by decide +kernel
theorem d16_7 : decode jdk_43_method_13_code 7 = .ok (.iconst 0, 1) := by decide +kernel
theorem d16_8 : decode jdk_43_method_13_code 8 = .ok (.istore_n 2, 1) := by decide +kernel
theorem d16_9 : decode jdk_43_method_13_code 9 = .ok (.iload_n 2, 1) := by decide +kernel
theorem d16_10 : decode jdk_43_method_13_code 10 = .ok (.aload_n 0, 1) := by decide +kernel
theorem d16_11 : decode jdk_43_method_13_code 11 = .ok (.arraylength, 1) := by decide +kernel
theorem d16_12 : decode jdk_43_method_13_code 12 = .ok (.if_icmp .ge 20, 3) := by decide +kernel
theorem d16_32 : decode jdk_43_method_13_code 32 = .ok (.iconst 1, 1) := by decide +kernel
theorem d16_33 : decode jdk_43_method_13_code 33 = .ok (.ireturn, 1) := by decide +kernel
def Q_str_lat_0_0 (Z : State) (t : Addr) (tt : Addr) (k : ClassId) (kk : ClassId) (h0 : Heap) (n0 : Nat) (v : Option Value) (h : Heap) (L : List Loc) : Prop := v = some (.int (own_eqv [] [])) ∧ Fr n0 L ∧ h = h0
theorem pn_java_lang_StringLatin1 : plainName "java/lang/StringLatin1" = true := by first | (simp [plainName, overriddenIn]; done) | decide +kernel
theorem ef_str_lat_0_0 (m : MethodId) (t : Addr) (tt : Addr)  : entryFrame m #[(.ref t), (.ref tt)] 3 = mkF m 0 #[.val (.ref t), .val (.ref tt), .unset] [] := by first | (simp [entryFrame, mkF, argsToLocals, Value.category]; done) | rfl
theorem str_lat_0_0 (l : Launch) (Z : State) (a0 : Array Value) (hw : TW a0 Z) (ws : List Jvm.Cond) (t : Addr) (tt : Addr) (k : ClassId) (kk : ClassId) (h0 : Heap) (n0 : Nat) (Z0 : n0 ≤ h0.size) (Vt : Arv Z h0 t k .byte 0 [] (.int 0)) (Vtt : Arv Z h0 tt kk .byte 0 [] (.int 0)) :
    own_MF l Z MN6 jdk_43_method_13_code 3 (some .boolean) ws (own_R 0 0 0 0) #[(.ref t), (.ref tt)] h0 (Q_str_lat_0_0 Z t tt k kk h0 n0) := by
  have wd := @own_wd _ _ hw
  refine MetFree.of_bodySF (plainFor_of_name pn_java_lang_StringLatin1) hisR ?_
  intro p e s m args below meth c s₁ Bd hml0 hP hK
  obtain ⟨rfl, hZ, hh⟩ := hP
  have hx := Bd.exec
  have hby := Bd.bytes
  have hml : c.maxLocals = 3 := hml0
  have hown : s.vm.findClass "java/lang/StringLatin1" = some m.cls := findClass_of_methodNamed Bd.named
  have hnm := (name_of_methodNamed Bd.named Bd.method).1
  have X0 : Stand p l e (own_R 0 0 0 0) s m #[(.ref t), (.ref tt)] below meth c s₁ [] 0 0 := Stand.of_body Bd
  have e0 : s₁.heap = h0 := by rw [← hh, Bd.state]; rfl
  have N0 := Fr.nil n0
  refine go_of (A := s₁.setTop (entryFrame m #[(.ref t), (.ref tt)] 3)) (B := s₁.setTop (mkF m 0 #[.val (.ref t), .val (.ref tt), .unset] [])) (fun _ kk' => castTop (ef_str_lat_0_0 m t tt) kk') ?_
  refine go_of (B := (s₁.setTop (mkF m 1 #[.val (.ref t), .val (.ref tt), .unset] [(.ref t)]))) (fun _ kk => XS.aloadN X0.here hx rfl (hb hby d16_0) rfl rfl kk) ?_
  obtain ⟨cl1, Ar1, q1, Sz1, Nn1, Hh1, G1⟩ := id (Vt)
  have ln1 := len_of Sz1 Nn1
  refine go_of (B := (s₁.setTop (mkF m 2 #[.val (.ref t), .val (.ref tt), .unset] [(.int (0 : Int32))]))) (fun _ kk => X0.arraylength hx (by rw [e0]; exact Ar1.1) (State.isArrayOf_alike hZ.alike Ar1.2.1) (g := (mkF m 1 #[.val (.ref t), .val (.ref tt), .unset] [(.ref t)])) rfl rfl (hb hby d16_1) _ (by rw [ln1]; exact kk)) ?_
  refine go_of (B := (s₁.setTop (mkF m 3 #[.val (.ref t), .val (.ref tt), .unset] [(.ref tt), (.int (0 : Int32))]))) (fun _ kk => XS.aloadN X0.here hx rfl (hb hby d16_2) rfl rfl kk) ?_
  obtain ⟨cl2, Ar2, q2, Sz2, Nn2, Hh2, G2⟩ := id (Vtt)
  have ln2 := len_of Sz2 Nn2
  refine go_of (B := (s₁.setTop (mkF m 4 #[.val (.ref t), .val (.ref tt), .unset] [(.int (0 : Int32)), (.int (0 : Int32))]))) (fun _ kk => X0.arraylength hx (by rw [e0]; exact Ar2.1) (State.isArrayOf_alike hZ.alike Ar2.2.1) (g := (mkF m 3 #[.val (.ref t), .val (.ref tt), .unset] [(.ref tt), (.int (0 : Int32))])) rfl rfl (hb hby d16_3) _ (by rw [ln2]; exact kk)) ?_
  refine go_of (B := (s₁.setTop (mkF m 11 #[.val (.ref t), .val (.ref tt), .val (.int (0 : Int32))] [(.ref t), (.int (0 : Int32))]))) (fun _ kk => XS.icmpNo X0.here hx rfl (hb hby d16_4) rfl (teq (by decide : (0 : Int32) = (0 : Int32))).2 (XS.iconst X0.here hx rfl (hb hby d16_7) (XS.istoreN X0.here hx rfl (hb hby d16_8) rfl rfl (XS.iloadN X0.here hx rfl (hb hby d16_9) rfl (XS.aloadN X0.here hx rfl (hb hby d16_10) rfl rfl kk))))) ?_
  obtain ⟨cl3, Ar3, q3, Sz3, Nn3, Hh3, G3⟩ := id (Vt)
  have ln3 := len_of Sz3 Nn3
  refine go_of (B := (s₁.setTop (mkF m 12 #[.val (.ref t), .val (.ref tt), .val (.int (0 : Int32))] [(.int (0 : Int32)), (.int (0 : Int32))]))) (fun _ kk => X0.arraylength hx (by rw [e0]; exact Ar3.1) (State.isArrayOf_alike hZ.alike Ar3.2.1) (g := (mkF m 11 #[.val (.ref t), .val (.ref tt), .val (.int (0 : Int32))] [(.ref t), (.int (0 : Int32))])) rfl rfl (hb hby d16_11) _ (by rw [ln3]; exact kk)) ?_
  refine go_of (B := (s₁.setTop (mkF m 33 #[.val (.ref t), .val (.ref tt), .val (.int (0 : Int32))] [(.int (1 : Int32))]))) (fun _ kk => XS.icmpYes X0.here hx rfl (pc0 := 12) (pc' := 32) rfl (hb hby d16_12) rfl (flt (by decide : ¬ ((0 : Int32) < (0 : Int32)))).2.1 (by decide) (by decide) (XS.iconst X0.here hx rfl (hb hby d16_32) kk)) ?_
  refine go_end X0 (v := some (.int (nar .boolean (1 : Int32)))) (fun h => by rw [Bd.returns] at h; cases h) Bd.notSynchronized (by decide) (by decide) (Q := (Q_str_lat_0_0 Z t tt k kk h0 n0)) ?_ (fun fs hr => retN X0 hx (t := .boolean) Bd.returns (by simp) (hb hby d16_33) hr)
  unfold Q_str_lat_0_0
  try rw [e0]
  refine ⟨?_, N0, rfl⟩
  simp [own_eqv, nar]
theorem d16_34 : decode jdk_43_method_13_code 34 = .ok (.iconst 0, 1) := by decide +kernel
theorem d16_35 : decode jdk_43_method_13_code 35 = .ok (.ireturn, 1) := by decide +kernel
def Q_str_lat_0_1 (Z : State) (t : Addr) (tt : Addr) (d0 : Int32) (k : ClassId) (kk : ClassId) (h0 : Heap) (n0 : Nat) (v : Option Value) (h : Heap) (L : List Loc) : Prop := v = some (.int (own_eqv [] [d0])) ∧ Fr n0 L ∧ h = h0
theorem ef_str_lat_0_1 (m : MethodId) (t : Addr) (tt : Addr)  : entryFrame m #[(.ref t), (.ref tt)] 3 = mkF m 0 #[.val (.ref t), .val (.ref tt), .unset] [] := by first | (simp [entryFrame, mkF, argsToLocals, Value.category]; done) | rfl
theorem str_lat_0_1 (l : Launch) (Z : State) (a0 : Array Value) (hw : TW a0 Z) (ws : List Jvm.Cond) (t : Addr) (tt : Addr) (d0 : Int32) (k : ClassId) (kk : ClassId) (h0 : Heap) (n0 : Nat) (Z0 : n0 ≤ h0.size) (Vt : Arv Z h0 t k .byte 0 [] (.int 0)) (Vtt : Arv Z h0 tt kk .byte 1 [(.int d0)] (.int 0)) :
    own_MF l Z MN6 jdk_43_method_13_code 3 (some .boolean) ws (own_R 0 0 0 0) #[(.ref t), (.ref tt)] h0 (Q_str_lat_0_1 Z t tt d0 k kk h0 n0) := by
  have wd := @own_wd _ _ hw
  refine MetFree.of_bodySF (plainFor_of_name pn_java_lang_StringLatin1) hisR ?_
  intro p e s m args below meth c s₁ Bd hml0 hP hK
  obtain ⟨rfl, hZ, hh⟩ := hP
  have hx := Bd.exec
  have hby := Bd.bytes
  have hml : c.maxLocals = 3 := hml0
  have hown : s.vm.findClass "java/lang/StringLatin1" = some m.cls := findClass_of_methodNamed Bd.named
  have hnm := (name_of_methodNamed Bd.named Bd.method).1
  have X0 : Stand p l e (own_R 0 0 0 0) s m #[(.ref t), (.ref tt)] below meth c s₁ [] 0 0 := Stand.of_body Bd
  have e0 : s₁.heap = h0 := by rw [← hh, Bd.state]; rfl
  have N0 := Fr.nil n0
  refine go_of (A := s₁.setTop (entryFrame m #[(.ref t), (.ref tt)] 3)) (B := s₁.setTop (mkF m 0 #[.val (.ref t), .val (.ref tt), .unset] [])) (fun _ kk' => castTop (ef_str_lat_0_1 m t tt) kk') ?_
  refine go_of (B := (s₁.setTop (mkF m 1 #[.val (.ref t), .val (.ref tt), .unset] [(.ref t)]))) (fun _ kk => XS.aloadN X0.here hx rfl (hb hby d16_0) rfl rfl kk) ?_
  obtain ⟨cl1, Ar1, q1, Sz1, Nn1, Hh1, G1⟩ := id (Vt)
  have ln1 := len_of Sz1 Nn1
  refine go_of (B := (s₁.setTop (mkF m 2 #[.val (.ref t), .val (.ref tt), .unset] [(.int (0 : Int32))]))) (fun _ kk => X0.arraylength hx (by rw [e0]; exact Ar1.1) (State.isArrayOf_alike hZ.alike Ar1.2.1) (g := (mkF m 1 #[.val (.ref t), .val (.ref tt), .unset] [(.ref t)])) rfl rfl (hb hby d16_1) _ (by rw [ln1]; exact kk)) ?_
  refine go_of (B := (s₁.setTop (mkF m 3 #[.val (.ref t), .val (.ref tt), .unset] [(.ref tt), (.int (0 : Int32))]))) (fun _ kk => XS.aloadN X0.here hx rfl (hb hby d16_2) rfl rfl kk) ?_
  obtain ⟨cl2, Ar2, q2, Sz2, Nn2, Hh2, G2⟩ := id (Vtt)
  have ln2 := len_of Sz2 Nn2
  refine go_of (B := (s₁.setTop (mkF m 4 #[.val (.ref t), .val (.ref tt), .unset] [(.int (1 : Int32)), (.int (0 : Int32))]))) (fun _ kk => X0.arraylength hx (by rw [e0]; exact Ar2.1) (State.isArrayOf_alike hZ.alike Ar2.2.1) (g := (mkF m 3 #[.val (.ref t), .val (.ref tt), .unset] [(.ref tt), (.int (0 : Int32))])) rfl rfl (hb hby d16_3) _ (by rw [ln2]; exact kk)) ?_
  refine go_of (B := (s₁.setTop (mkF m 35 #[.val (.ref t), .val (.ref tt), .unset] [(.int (0 : Int32))]))) (fun _ kk => XS.icmpYes X0.here hx rfl (pc0 := 4) (pc' := 34) rfl (hb hby d16_4) rfl (feq (by decide : ¬ ((0 : Int32) = (1 : Int32)))).2 (by decide) (by decide) (XS.iconst X0.here hx rfl (hb hby d16_34) kk)) ?_
  refine go_end X0 (v := some (.int (nar .boolean (0 : Int32)))) (fun h => by rw [Bd.returns] at h; cases h) Bd.notSynchronized (by decide) (by decide) (Q := (Q_str_lat_0_1 Z t tt d0 k kk h0 n0)) ?_ (fun fs hr => retN X0 hx (t := .boolean) Bd.returns (by simp) (hb hby d16_35) hr)
  unfold Q_str_lat_0_1
  try rw [e0]
  refine ⟨?_, N0, rfl⟩
  simp [own_eqv, nar]
def Q_str_lat_0_2 (Z : State) (t : Addr) (tt : Addr) (d0 : Int32) (d1 : Int32) (k : ClassId) (kk : ClassId) (h0 : Heap) (n0 : Nat) (v : Option Value) (h : Heap) (L : List Loc) : Prop := v = some (.int (own_eqv [] [d0, d1])) ∧ Fr n0 L ∧ h = h0
theorem ef_str_lat_0_2 (m : MethodId) (t : Addr) (tt : Addr)  : entryFrame m #[(.ref t), (.ref tt)] 3 = mkF m 0 #[.val (.ref t), .val (.ref tt), .unset] [] := by first | (simp [entryFrame, mkF, argsToLocals, Value.category]; done) | rfl
theorem str_lat_0_2 (l : Launch) (Z : State) (a0 : Array Value) (hw : TW a0 Z) (ws : List Jvm.Cond) (t : Addr) (tt : Addr) (d0 : Int32) (d1 : Int32) (k : ClassId) (kk : ClassId) (h0 : Heap) (n0 : Nat) (Z0 : n0 ≤ h0.size) (Vt : Arv Z h0 t k .byte 0 [] (.int 0)) (Vtt : Arv Z h0 tt kk .byte 2 [(.int d0), (.int d1)] (.int 0)) :
    own_MF l Z MN6 jdk_43_method_13_code 3 (some .boolean) ws (own_R 0 0 0 0) #[(.ref t), (.ref tt)] h0 (Q_str_lat_0_2 Z t tt d0 d1 k kk h0 n0) := by
  have wd := @own_wd _ _ hw
  refine MetFree.of_bodySF (plainFor_of_name pn_java_lang_StringLatin1) hisR ?_
  intro p e s m args below meth c s₁ Bd hml0 hP hK
  obtain ⟨rfl, hZ, hh⟩ := hP
  have hx := Bd.exec
  have hby := Bd.bytes
  have hml : c.maxLocals = 3 := hml0
  have hown : s.vm.findClass "java/lang/StringLatin1" = some m.cls := findClass_of_methodNamed Bd.named
  have hnm := (name_of_methodNamed Bd.named Bd.method).1
  have X0 : Stand p l e (own_R 0 0 0 0) s m #[(.ref t), (.ref tt)] below meth c s₁ [] 0 0 := Stand.of_body Bd
  have e0 : s₁.heap = h0 := by rw [← hh, Bd.state]; rfl
  have N0 := Fr.nil n0
  refine go_of (A := s₁.setTop (entryFrame m #[(.ref t), (.ref tt)] 3)) (B := s₁.setTop (mkF m 0 #[.val (.ref t), .val (.ref tt), .unset] [])) (fun _ kk' => castTop (ef_str_lat_0_2 m t tt) kk') ?_
  refine go_of (B := (s₁.setTop (mkF m 1 #[.val (.ref t), .val (.ref tt), .unset] [(.ref t)]))) (fun _ kk => XS.aloadN X0.here hx rfl (hb hby d16_0) rfl rfl kk) ?_
  obtain ⟨cl1, Ar1, q1, Sz1, Nn1, Hh1, G1⟩ := id (Vt)
  have ln1 := len_of Sz1 Nn1
  refine go_of (B := (s₁.setTop (mkF m 2 #[.val (.ref t), .val (.ref tt), .unset] [(.int (0 : Int32))]))) (fun _ kk => X0.arraylength hx (by rw [e0]; exact Ar1.1) (State.isArrayOf_alike hZ.alike Ar1.2.1) (g := (mkF m 1 #[.val (.ref t), .val (.ref tt), .unset] [(.ref t)])) rfl rfl (hb hby d16_1) _ (by rw [ln1]; exact kk)) ?_
  refine go_of (B := (s₁.setTop (mkF m 3 #[.val (.ref t), .val (.ref tt), .unset] [(.ref tt), (.int (0 : Int32))]))) (fun _ kk => XS.aloadN X0.here hx rfl (hb hby d16_2) rfl rfl kk) ?_
  obtain ⟨cl2, Ar2, q2, Sz2, Nn2, Hh2, G2⟩ := id (Vtt)
  have ln2 := len_of Sz2 Nn2
  refine go_of (B := (s₁.setTop (mkF m 4 #[.val (.ref t), .val (.ref tt), .unset] [(.int (2 : Int32)), (.int (0 : Int32))]))) (fun _ kk => X0.arraylength hx (by rw [e0]; exact Ar2.1) (State.isArrayOf_alike hZ.alike Ar2.2.1) (g := (mkF m 3 #[.val (.ref t), .val (.ref tt), .unset] [(.ref tt), (.int (0 : Int32))])) rfl rfl (hb hby d16_3) _ (by rw [ln2]; exact kk)) ?_
  refine go_of (B := (s₁.setTop (mkF m 35 #[.val (.ref t), .val (.ref tt), .unset] [(.int (0 : Int32))]))) (fun _ kk => XS.icmpYes X0.here hx rfl (pc0 := 4) (pc' := 34) rfl (hb hby d16_4) rfl (feq (by decide : ¬ ((0 : Int32) = (2 : Int32)))).2 (by decide) (by decide) (XS.iconst X0.here hx rfl (hb hby d16_34) kk)) ?_
  refine go_end X0 (v := some (.int (nar .boolean (0 : Int32)))) (fun h => by rw [Bd.returns] at h; cases h) Bd.notSynchronized (by decide) (by decide) (Q := (Q_str_lat_0_2 Z t tt d0 d1 k kk h0 n0)) ?_ (fun fs hr => retN X0 hx (t := .boolean) Bd.returns (by simp) (hb hby d16_35) hr)
  unfold Q_str_lat_0_2
  try rw [e0]
  refine ⟨?_, N0, rfl⟩
  simp [own_eqv, nar]
def Q_str_lat_1_0 (Z : State) (t : Addr) (tt : Addr) (c0 : Int32) (k : ClassId) (kk : ClassId) (h0 : Heap) (n0 : Nat) (v : Option Value) (h : Heap) (L : List Loc) : Prop := v = some (.int (own_eqv [c0] [])) ∧ Fr n0 L ∧ h = h0
theorem ef_str_lat_1_0 (m : MethodId) (t : Addr) (tt : Addr)  : entryFrame m #[(.ref t), (.ref tt)] 3 = mkF m 0 #[.val (.ref t), .val (.ref tt), .unset] [] := by first | (simp [entryFrame, mkF, argsToLocals, Value.category]; done) | rfl
theorem str_lat_1_0 (l : Launch) (Z : State) (a0 : Array Value) (hw : TW a0 Z) (ws : List Jvm.Cond) (t : Addr) (tt : Addr) (c0 : Int32) (k : ClassId) (kk : ClassId) (h0 : Heap) (n0 : Nat) (Z0 : n0 ≤ h0.size) (Vt : Arv Z h0 t k .byte 1 [(.int c0)] (.int 0)) (Vtt : Arv Z h0 tt kk .byte 0 [] (.int 0)) :
    own_MF l Z MN6 jdk_43_method_13_code 3 (some .boolean) ws (own_R 0 0 0 0) #[(.ref t), (.ref tt)] h0 (Q_str_lat_1_0 Z t tt c0 k kk h0 n0) := by
  have wd := @own_wd _ _ hw
  refine MetFree.of_bodySF (plainFor_of_name pn_java_lang_StringLatin1) hisR ?_
  intro p e s m args below meth c s₁ Bd hml0 hP hK
  obtain ⟨rfl, hZ, hh⟩ := hP
  have hx := Bd.exec
  have hby := Bd.bytes
  have hml : c.maxLocals = 3 := hml0
  have hown : s.vm.findClass "java/lang/StringLatin1" = some m.cls := findClass_of_methodNamed Bd.named
  have hnm := (name_of_methodNamed Bd.named Bd.method).1
  have X0 : Stand p l e (own_R 0 0 0 0) s m #[(.ref t), (.ref tt)] below meth c s₁ [] 0 0 := Stand.of_body Bd
  have e0 : s₁.heap = h0 := by rw [← hh, Bd.state]; rfl
  have N0 := Fr.nil n0
  refine go_of (A := s₁.setTop (entryFrame m #[(.ref t), (.ref tt)] 3)) (B := s₁.setTop (mkF m 0 #[.val (.ref t), .val (.ref tt), .unset] [])) (fun _ kk' => castTop (ef_str_lat_1_0 m t tt) kk') ?_
  refine go_of (B := (s₁.setTop (mkF m 1 #[.val (.ref t), .val (.ref tt), .unset] [(.ref t)]))) (fun _ kk => XS.aloadN X0.here hx rfl (hb hby d16_0) rfl rfl kk) ?_
  obtain ⟨cl1, Ar1, q1, Sz1, Nn1, Hh1, G1⟩ := id (Vt)
  have ln1 := len_of Sz1 Nn1
  refine go_of (B := (s₁.setTop (mkF m 2 #[.val (.ref t), .val (.ref tt), .unset] [(.int (1 : Int32))]))) (fun _ kk => X0.arraylength hx (by rw [e0]; exact Ar1.1) (State.isArrayOf_alike hZ.alike Ar1.2.1) (g := (mkF m 1 #[.val (.ref t), .val (.ref tt), .unset] [(.ref t)])) rfl rfl (hb hby d16_1) _ (by rw [ln1]; exact kk)) ?_
  refine go_of (B := (s₁.setTop (mkF m 3 #[.val (.ref t), .val (.ref tt), .unset] [(.ref tt), (.int (1 : Int32))]))) (fun _ kk => XS.aloadN X0.here hx rfl (hb hby d16_2) rfl rfl kk) ?_
  obtain ⟨cl2, Ar2, q2, Sz2, Nn2, Hh2, G2⟩ := id (Vtt)
  have ln2 := len_of Sz2 Nn2
  refine go_of (B := (s₁.setTop (mkF m 4 #[.val (.ref t), .val (.ref tt), .unset] [(.int (0 : Int32)), (.int (1 : Int32))]))) (fun _ kk => X0.arraylength hx (by rw [e0]; exact Ar2.1) (State.isArrayOf_alike hZ.alike Ar2.2.1) (g := (mkF m 3 #[.val (.ref t), .val (.ref tt), .unset] [(.ref tt), (.int (1 : Int32))])) rfl rfl (hb hby d16_3) _ (by rw [ln2]; exact kk)) ?_
  refine go_of (B := (s₁.setTop (mkF m 35 #[.val (.ref t), .val (.ref tt), .unset] [(.int (0 : Int32))]))) (fun _ kk => XS.icmpYes X0.here hx rfl (pc0 := 4) (pc' := 34) rfl (hb hby d16_4) rfl (feq (by decide : ¬ ((1 : Int32) = (0 : Int32)))).2 (by decide) (by decide) (XS.iconst X0.here hx rfl (hb hby d16_34) kk)) ?_
  refine go_end X0 (v := some (.int (nar .boolean (0 : Int32)))) (fun h => by rw [Bd.returns] at h; cases h) Bd.notSynchronized (by decide) (by decide) (Q := (Q_str_lat_1_0 Z t tt c0 k kk h0 n0)) ?_ (fun fs hr => retN X0 hx (t := .boolean) Bd.returns (by simp) (hb hby d16_35) hr)
  unfold Q_str_lat_1_0
  try rw [e0]
  refine ⟨?_, N0, rfl⟩
  simp [own_eqv, nar]
theorem d16_15 : decode jdk_43_method_13_code 15 = .ok (.aload_n 0, 1) := by decide +kernel
theorem d16_16 : decode jdk_43_method_13_code 16 = .ok (.iload_n 2, 1) := by decide +kernel
theorem d16_17 : decode jdk_43_method_13_code 17 = .ok (.baload, 1) := by decide +kernel
theorem d16_18 : decode jdk_43_method_13_code 18 = .ok (.aload_n 1, 1) := by decide +kernel
theorem d16_19 : decode jdk_43_method_13_code 19 = .ok (.iload_n 2, 1) := by decide +kernel
theorem d16_20 : decode jdk_43_method_13_code 20 = .ok (.baload, 1) := by decide +kernel
theorem d16_21 : decode jdk_43_method_13_code 21 = .ok (.if_icmp .eq 5, 3) := by decide +kernel
theorem d16_26 : decode jdk_43_method_13_code 26 = .ok (.iinc 2 1, 3) := by decide +kernel
theorem d16_29 : decode jdk_43_method_13_code 29 = .ok (.goto (-20), 3) := by decide +kernel
def Q_str_lat_1_1 (Z : State) (t : Addr) (tt : Addr) (c0 : Int32) (d0 : Int32) (k : ClassId) (kk : ClassId) (h0 : Heap) (n0 : Nat) (v : Option Value) (h : Heap) (L : List Loc) : Prop := v = some (.int (own_eqv [c0] [d0])) ∧ Fr n0 L ∧ h = h0
theorem d16_24 : decode jdk_43_method_13_code 24 = .ok (.iconst 0, 1) := by decide +kernel
theorem d16_25 : decode jdk_43_method_13_code 25 = .ok (.ireturn, 1) := by decide +kernel
theorem ef_str_lat_1_1 (m : MethodId) (t : Addr) (tt : Addr)  : entryFrame m #[(.ref t), (.ref tt)] 3 = mkF m 0 #[.val (.ref t), .val (.ref tt), .unset] [] := by first | (simp [entryFrame, mkF, argsToLocals, Value.category]; done) | rfl
theorem str_lat_1_1 (l : Launch) (Z : State) (a0 : Array Value) (hw : TW a0 Z) (ws : List Jvm.Cond) (t : Addr) (tt : Addr) (c0 : Int32) (d0 : Int32) (k : ClassId) (kk : ClassId) (h0 : Heap) (n0 : Nat) (Z0 : n0 ≤ h0.size) (Vt : Arv Z h0 t k .byte 1 [(.int c0)] (.int 0)) (Vtt : Arv Z h0 tt kk .byte 1 [(.int d0)] (.int 0)) :
    own_MF l Z MN6 jdk_43_method_13_code 3 (some .boolean) ws (own_R 0 0 0 0) #[(.ref t), (.ref tt)] h0 (Q_str_lat_1_1 Z t tt c0 d0 k kk h0 n0) := by
  have wd := @own_wd _ _ hw
  refine MetFree.of_bodySF (plainFor_of_name pn_java_lang_StringLatin1) hisR ?_
  intro p e s m args below meth c s₁ Bd hml0 hP hK
  obtain ⟨rfl, hZ, hh⟩ := hP
  have hx := Bd.exec
  have hby := Bd.bytes
  have hml : c.maxLocals = 3 := hml0
  have hown : s.vm.findClass "java/lang/StringLatin1" = some m.cls := findClass_of_methodNamed Bd.named
  have hnm := (name_of_methodNamed Bd.named Bd.method).1
  have X0 : Stand p l e (own_R 0 0 0 0) s m #[(.ref t), (.ref tt)] below meth c s₁ [] 0 0 := Stand.of_body Bd
  have e0 : s₁.heap = h0 := by rw [← hh, Bd.state]; rfl
  have N0 := Fr.nil n0
  refine go_of (A := s₁.setTop (entryFrame m #[(.ref t), (.ref tt)] 3)) (B := s₁.setTop (mkF m 0 #[.val (.ref t), .val (.ref tt), .unset] [])) (fun _ kk' => castTop (ef_str_lat_1_1 m t tt) kk') ?_
  refine go_of (B := (s₁.setTop (mkF m 1 #[.val (.ref t), .val (.ref tt), .unset] [(.ref t)]))) (fun _ kk => XS.aloadN X0.here hx rfl (hb hby d16_0) rfl rfl kk) ?_
  obtain ⟨cl1, Ar1, q1, Sz1, Nn1, Hh1, G1⟩ := id (Vt)
  have ln1 := len_of Sz1 Nn1
  refine go_of (B := (s₁.setTop (mkF m 2 #[.val (.ref t), .val (.ref tt), .unset] [(.int (1 : Int32))]))) (fun _ kk => X0.arraylength hx (by rw [e0]; exact Ar1.1) (State.isArrayOf_alike hZ.alike Ar1.2.1) (g := (mkF m 1 #[.val (.ref t), .val (.ref tt), .unset] [(.ref t)])) rfl rfl (hb hby d16_1) _ (by rw [ln1]; exact kk)) ?_
  refine go_of (B := (s₁.setTop (mkF m 3 #[.val (.ref t), .val (.ref tt), .unset] [(.ref tt), (.int (1 : Int32))]))) (fun _ kk => XS.aloadN X0.here hx rfl (hb hby d16_2) rfl rfl kk) ?_
  obtain ⟨cl2, Ar2, q2, Sz2, Nn2, Hh2, G2⟩ := id (Vtt)
  have ln2 := len_of Sz2 Nn2
  refine go_of (B := (s₁.setTop (mkF m 4 #[.val (.ref t), .val (.ref tt), .unset] [(.int (1 : Int32)), (.int (1 : Int32))]))) (fun _ kk => X0.arraylength hx (by rw [e0]; exact Ar2.1) (State.isArrayOf_alike hZ.alike Ar2.2.1) (g := (mkF m 3 #[.val (.ref t), .val (.ref tt), .unset] [(.ref tt), (.int (1 : Int32))])) rfl rfl (hb hby d16_3) _ (by rw [ln2]; exact kk)) ?_
  refine go_of (B := (s₁.setTop (mkF m 11 #[.val (.ref t), .val (.ref tt), .val (.int (0 : Int32))] [(.ref t), (.int (0 : Int32))]))) (fun _ kk => XS.icmpNo X0.here hx rfl (hb hby d16_4) rfl (teq (by decide : (1 : Int32) = (1 : Int32))).2 (XS.iconst X0.here hx rfl (hb hby d16_7) (XS.istoreN X0.here hx rfl (hb hby d16_8) rfl rfl (XS.iloadN X0.here hx rfl (hb hby d16_9) rfl (XS.aloadN X0.here hx rfl (hb hby d16_10) rfl rfl kk))))) ?_
  obtain ⟨cl3, Ar3, q3, Sz3, Nn3, Hh3, G3⟩ := id (Vt)
  have ln3 := len_of Sz3 Nn3
  refine go_of (B := (s₁.setTop (mkF m 12 #[.val (.ref t), .val (.ref tt), .val (.int (0 : Int32))] [(.int (1 : Int32)), (.int (0 : Int32))]))) (fun _ kk => X0.arraylength hx (by rw [e0]; exact Ar3.1) (State.isArrayOf_alike hZ.alike Ar3.2.1) (g := (mkF m 11 #[.val (.ref t), .val (.ref tt), .val (.int (0 : Int32))] [(.ref t), (.int (0 : Int32))])) rfl rfl (hb hby d16_11) _ (by rw [ln3]; exact kk)) ?_
  refine go_of (B := (s₁.setTop (mkF m 17 #[.val (.ref t), .val (.ref tt), .val (.int (0 : Int32))] [(.int (0 : Int32)), (.ref t)]))) (fun _ kk => XS.icmpNo X0.here hx rfl (hb hby d16_12) rfl (tlt (by decide : (0 : Int32) < (1 : Int32))).2.1 (XS.aloadN X0.here hx rfl (hb hby d16_15) rfl rfl (XS.iloadN X0.here hx rfl (hb hby d16_16) rfl kk))) ?_
  obtain ⟨cl4, Ar4, q4, Sz4, Nn4, Hh4, G4⟩ := id (Vt)
  refine go_of (B := (s₁.setTop (mkF m 20 #[.val (.ref t), .val (.ref tt), .val (.int (0 : Int32))] [(.int (0 : Int32)), (.ref tt), (.int c0)]))) (fun _ kk => X0.baloadBytes hx (j := (0 : Int32)) (v := (.int c0)) (by rw [e0]; exact Ar4.1) (State.isArrayOf_alike hZ.alike Ar4.2.1) Ar4.2.2 (inb_of Sz4 ⟨by decide, by decide⟩) (Hh4.at (inb_of Sz4 ⟨by decide, by decide⟩) rfl) (g := (mkF m 17 #[.val (.ref t), .val (.ref tt), .val (.int (0 : Int32))] [(.int (0 : Int32)), (.ref t)])) rfl rfl (hb hby d16_17) _ (XS.aloadN X0.here hx rfl (hb hby d16_18) rfl rfl (XS.iloadN X0.here hx rfl (hb hby d16_19) rfl kk))) ?_
  obtain ⟨cl5, Ar5, q5, Sz5, Nn5, Hh5, G5⟩ := id (Vtt)
  refine go_of (B := (s₁.setTop (mkF m 21 #[.val (.ref t), .val (.ref tt), .val (.int (0 : Int32))] [(.int d0), (.int c0)]))) (fun _ kk => X0.baloadBytes hx (j := (0 : Int32)) (v := (.int d0)) (by rw [e0]; exact Ar5.1) (State.isArrayOf_alike hZ.alike Ar5.2.1) Ar5.2.2 (inb_of Sz5 ⟨by decide, by decide⟩) (Hh5.at (inb_of Sz5 ⟨by decide, by decide⟩) rfl) (g := (mkF m 20 #[.val (.ref t), .val (.ref tt), .val (.int (0 : Int32))] [(.int (0 : Int32)), (.ref tt), (.int c0)])) rfl rfl (hb hby d16_20) _ kk) ?_
  by_cases hcc6 : c0 = d0
  · refine go_of (B := (s₁.setTop (mkF m 11 #[.val (.ref t), .val (.ref tt), .val (.int (1 : Int32))] [(.ref t), (.int (1 : Int32))]))) (fun _ kk => XS.icmpYes X0.here hx rfl (pc0 := 21) (pc' := 26) rfl (hb hby d16_21) rfl (teq hcc6).1 (by decide) (by decide) (XS.iinc X0.here hx rfl (hb hby d16_26) rfl rfl (XS.goto X0.here hx rfl (pc0 := 29) (pc' := 9) rfl (hb hby d16_29) (by decide) (by decide) (XS.iloadN X0.here hx rfl (hb hby d16_9) rfl (XS.aloadN X0.here hx rfl (hb hby d16_10) rfl rfl kk))))) ?_
    obtain ⟨cl7, Ar7, q7, Sz7, Nn7, Hh7, G7⟩ := id (Vt)
    have ln7 := len_of Sz7 Nn7
    refine go_of (B := (s₁.setTop (mkF m 12 #[.val (.ref t), .val (.ref tt), .val (.int (1 : Int32))] [(.int (1 : Int32)), (.int (1 : Int32))]))) (fun _ kk => X0.arraylength hx (by rw [e0]; exact Ar7.1) (State.isArrayOf_alike hZ.alike Ar7.2.1) (g := (mkF m 11 #[.val (.ref t), .val (.ref tt), .val (.int (1 : Int32))] [(.ref t), (.int (1 : Int32))])) rfl rfl (hb hby d16_11) _ (by rw [ln7]; exact kk)) ?_
    refine go_of (B := (s₁.setTop (mkF m 33 #[.val (.ref t), .val (.ref tt), .val (.int (1 : Int32))] [(.int (1 : Int32))]))) (fun _ kk => XS.icmpYes X0.here hx rfl (pc0 := 12) (pc' := 32) rfl (hb hby d16_12) rfl (flt (by decide : ¬ ((1 : Int32) < (1 : Int32)))).2.1 (by decide) (by decide) (XS.iconst X0.here hx rfl (hb hby d16_32) kk)) ?_
    refine go_end X0 (v := some (.int (nar .boolean (1 : Int32)))) (fun h => by rw [Bd.returns] at h; cases h) Bd.notSynchronized (by decide) (by decide) (Q := (Q_str_lat_1_1 Z t tt c0 d0 k kk h0 n0)) ?_ (fun fs hr => retN X0 hx (t := .boolean) Bd.returns (by simp) (hb hby d16_33) hr)
    unfold Q_str_lat_1_1
    try rw [e0]
    refine ⟨?_, N0, rfl⟩
    simp [own_eqv, nar, hcc6]
  · refine go_of (B := (s₁.setTop (mkF m 25 #[.val (.ref t), .val (.ref tt), .val (.int (0 : Int32))] [(.int (0 : Int32))]))) (fun _ kk => XS.icmpNo X0.here hx rfl (hb hby d16_21) rfl (feq hcc6).1 (XS.iconst X0.here hx rfl (hb hby d16_24) kk)) ?_
    refine go_end X0 (v := some (.int (nar .boolean (0 : Int32)))) (fun h => by rw [Bd.returns] at h; cases h) Bd.notSynchronized (by decide) (by decide) (Q := (Q_str_lat_1_1 Z t tt c0 d0 k kk h0 n0)) ?_ (fun fs hr => retN X0 hx (t := .boolean) Bd.returns (by simp) (hb hby d16_25) hr)
    unfold Q_str_lat_1_1
    try rw [e0]
    refine ⟨?_, N0, rfl⟩
    simp [own_eqv, nar, hcc6]
def Q_str_lat_1_2 (Z : State) (t : Addr) (tt : Addr) (c0 : Int32) (d0 : Int32) (d1 : Int32) (k : ClassId) (kk : ClassId) (h0 : Heap) (n0 : Nat) (v : Option Value) (h : Heap) (L : List Loc) : Prop := v = some (.int (own_eqv [c0] [d0, d1])) ∧ Fr n0 L ∧ h = h0
theorem ef_str_lat_1_2 (m : MethodId) (t : Addr) (tt : Addr)  : entryFrame m #[(.ref t), (.ref tt)] 3 = mkF m 0 #[.val (.ref t), .val (.ref tt), .unset] [] := by first | (simp [entryFrame, mkF, argsToLocals, Value.category]; done) | rfl
theorem str_lat_1_2 (l : Launch) (Z : State) (a0 : Array Value) (hw : TW a0 Z) (ws : List Jvm.Cond) (t : Addr) (tt : Addr) (c0 : Int32) (d0 : Int32) (d1 : Int32) (k : ClassId) (kk : ClassId) (h0 : Heap) (n0 : Nat) (Z0 : n0 ≤ h0.size) (Vt : Arv Z h0 t k .byte 1 [(.int c0)] (.int 0)) (Vtt : Arv Z h0 tt kk .byte 2 [(.int d0), (.int d1)] (.int 0)) :
    own_MF l Z MN6 jdk_43_method_13_code 3 (some .boolean) ws (own_R 0 0 0 0) #[(.ref t), (.ref tt)] h0 (Q_str_lat_1_2 Z t tt c0 d0 d1 k kk h0 n0) := by
  have wd := @own_wd _ _ hw
  refine MetFree.of_bodySF (plainFor_of_name pn_java_lang_StringLatin1) hisR ?_
  intro p e s m args below meth c s₁ Bd hml0 hP hK
  obtain ⟨rfl, hZ, hh⟩ := hP
  have hx := Bd.exec
  have hby := Bd.bytes
  have hml : c.maxLocals = 3 := hml0
  have hown : s.vm.findClass "java/lang/StringLatin1" = some m.cls := findClass_of_methodNamed Bd.named
  have hnm := (name_of_methodNamed Bd.named Bd.method).1
  have X0 : Stand p l e (own_R 0 0 0 0) s m #[(.ref t), (.ref tt)] below meth c s₁ [] 0 0 := Stand.of_body Bd
  have e0 : s₁.heap = h0 := by rw [← hh, Bd.state]; rfl
  have N0 := Fr.nil n0
  refine go_of (A := s₁.setTop (entryFrame m #[(.ref t), (.ref tt)] 3)) (B := s₁.setTop (mkF m 0 #[.val (.ref t), .val (.ref tt), .unset] [])) (fun _ kk' => castTop (ef_str_lat_1_2 m t tt) kk') ?_
  refine go_of (B := (s₁.setTop (mkF m 1 #[.val (.ref t), .val (.ref tt), .unset] [(.ref t)]))) (fun _ kk => XS.aloadN X0.here hx rfl (hb hby d16_0) rfl rfl kk) ?_
  obtain ⟨cl1, Ar1, q1, Sz1, Nn1, Hh1, G1⟩ := id (Vt)
  have ln1 := len_of Sz1 Nn1
  refine go_of (B := (s₁.setTop (mkF m 2 #[.val (.ref t), .val (.ref tt), .unset] [(.int (1 : Int32))]))) (fun _ kk => X0.arraylength hx (by rw [e0]; exact Ar1.1) (State.isArrayOf_alike hZ.alike Ar1.2.1) (g := (mkF m 1 #[.val (.ref t), .val (.ref tt), .unset] [(.ref t)])) rfl rfl (hb hby d16_1) _ (by rw [ln1]; exact kk)) ?_
  refine go_of (B := (s₁.setTop (mkF m 3 #[.val (.ref t), .val (.ref tt), .unset] [(.ref tt), (.int (1 : Int32))]))) (fun _ kk => XS.aloadN X0.here hx rfl (hb hby d16_2) rfl rfl kk) ?_
  obtain ⟨cl2, Ar2, q2, Sz2, Nn2, Hh2, G2⟩ := id (Vtt)
  have ln2 := len_of Sz2 Nn2
  refine go_of (B := (s₁.setTop (mkF m 4 #[.val (.ref t), .val (.ref tt), .unset] [(.int (2 : Int32)), (.int (1 : Int32))]))) (fun _ kk => X0.arraylength hx (by rw [e0]; exact Ar2.1) (State.isArrayOf_alike hZ.alike Ar2.2.1) (g := (mkF m 3 #[.val (.ref t), .val (.ref tt), .unset] [(.ref tt), (.int (1 : Int32))])) rfl rfl (hb hby d16_3) _ (by rw [ln2]; exact kk)) ?_
  refine go_of (B := (s₁.setTop (mkF m 35 #[.val (.ref t), .val (.ref tt), .unset] [(.int (0 : Int32))]))) (fun _ kk => XS.icmpYes X0.here hx rfl (pc0 := 4) (pc' := 34) rfl (hb hby d16_4) rfl (feq (by decide : ¬ ((1 : Int32) = (2 : Int32)))).2 (by decide) (by decide) (XS.iconst X0.here hx rfl (hb hby d16_34) kk)) ?_
  refine go_end X0 (v := some (.int (nar .boolean (0 : Int32)))) (fun h => by rw [Bd.returns] at h; cases h) Bd.notSynchronized (by decide) (by decide) (Q := (Q_str_lat_1_2 Z t tt c0 d0 d1 k kk h0 n0)) ?_ (fun fs hr => retN X0 hx (t := .boolean) Bd.returns (by simp) (hb hby d16_35) hr)
  unfold Q_str_lat_1_2
  try rw [e0]
  refine ⟨?_, N0, rfl⟩
  simp [own_eqv, nar]
def Q_str_lat_2_0 (Z : State) (t : Addr) (tt : Addr) (c0 : Int32) (c1 : Int32) (k : ClassId) (kk : ClassId) (h0 : Heap) (n0 : Nat) (v : Option Value) (h : Heap) (L : List Loc) : Prop := v = some (.int (own_eqv [c0, c1] [])) ∧ Fr n0 L ∧ h = h0
theorem ef_str_lat_2_0 (m : MethodId) (t : Addr) (tt : Addr)  : entryFrame m #[(.ref t), (.ref tt)] 3 = mkF m 0 #[.val (.ref t), .val (.ref tt), .unset] [] := by first | (simp [entryFrame, mkF, argsToLocals, Value.category]; done) | rfl
theorem str_lat_2_0 (l : Launch) (Z : State) (a0 : Array Value) (hw : TW a0 Z) (ws : List Jvm.Cond) (t : Addr) (tt : Addr) (c0 : Int32) (c1 : Int32) (k : ClassId) (kk : ClassId) (h0 : Heap) (n0 : Nat) (Z0 : n0 ≤ h0.size) (Vt : Arv Z h0 t k .byte 2 [(.int c0), (.int c1)] (.int 0)) (Vtt : Arv Z h0 tt kk .byte 0 [] (.int 0)) :
    own_MF l Z MN6 jdk_43_method_13_code 3 (some .boolean) ws (own_R 0 0 0 0) #[(.ref t), (.ref tt)] h0 (Q_str_lat_2_0 Z t tt c0 c1 k kk h0 n0) := by
  have wd := @own_wd _ _ hw
  refine MetFree.of_bodySF (plainFor_of_name pn_java_lang_StringLatin1) hisR ?_
  intro p e s m args below meth c s₁ Bd hml0 hP hK
  obtain ⟨rfl, hZ, hh⟩ := hP
  have hx := Bd.exec
  have hby := Bd.bytes
  have hml : c.maxLocals = 3 := hml0
  have hown : s.vm.findClass "java/lang/StringLatin1" = some m.cls := findClass_of_methodNamed Bd.named
  have hnm := (name_of_methodNamed Bd.named Bd.method).1
  have X0 : Stand p l e (own_R 0 0 0 0) s m #[(.ref t), (.ref tt)] below meth c s₁ [] 0 0 := Stand.of_body Bd
  have e0 : s₁.heap = h0 := by rw [← hh, Bd.state]; rfl
  have N0 := Fr.nil n0
  refine go_of (A := s₁.setTop (entryFrame m #[(.ref t), (.ref tt)] 3)) (B := s₁.setTop (mkF m 0 #[.val (.ref t), .val (.ref tt), .unset] [])) (fun _ kk' => castTop (ef_str_lat_2_0 m t tt) kk') ?_
  refine go_of (B := (s₁.setTop (mkF m 1 #[.val (.ref t), .val (.ref tt), .unset] [(.ref t)]))) (fun _ kk => XS.aloadN X0.here hx rfl (hb hby d16_0) rfl rfl kk) ?_
  obtain ⟨cl1, Ar1, q1, Sz1, Nn1, Hh1, G1⟩ := id (Vt)
  have ln1 := len_of Sz1 Nn1
  refine go_of (B := (s₁.setTop (mkF m 2 #[.val (.ref t), .val (.ref tt), .unset] [(.int (2 : Int32))]))) (fun _ kk => X0.arraylength hx (by rw [e0]; exact Ar1.1) (State.isArrayOf_alike hZ.alike Ar1.2.1) (g := (mkF m 1 #[.val (.ref t), .val (.ref tt), .unset] [(.ref t)])) rfl rfl (hb hby d16_1) _ (by rw [ln1]; exact kk)) ?_
  refine go_of (B := (s₁.setTop (mkF m 3 #[.val (.ref t), .val (.ref tt), .unset] [(.ref tt), (.int (2 : Int32))]))) (fun _ kk => XS.aloadN X0.here hx rfl (hb hby d16_2) rfl rfl kk) ?_
  obtain ⟨cl2, Ar2, q2, Sz2, Nn2, Hh2, G2⟩ := id (Vtt)
  have ln2 := len_of Sz2 Nn2
  refine go_of (B := (s₁.setTop (mkF m 4 #[.val (.ref t), .val (.ref tt), .unset] [(.int (0 : Int32)), (.int (2 : Int32))]))) (fun _ kk => X0.arraylength hx (by rw [e0]; exact Ar2.1) (State.isArrayOf_alike hZ.alike Ar2.2.1) (g := (mkF m 3 #[.val (.ref t), .val (.ref tt), .unset] [(.ref tt), (.int (2 : Int32))])) rfl rfl (hb hby d16_3) _ (by rw [ln2]; exact kk)) ?_
  refine go_of (B := (s₁.setTop (mkF m 35 #[.val (.ref t), .val (.ref tt), .unset] [(.int (0 : Int32))]))) (fun _ kk => XS.icmpYes X0.here hx rfl (pc0 := 4) (pc' := 34) rfl (hb hby d16_4) rfl (feq (by decide : ¬ ((2 : Int32) = (0 : Int32)))).2 (by decide) (by decide) (XS.iconst X0.here hx rfl (hb hby d16_34) kk)) ?_
  refine go_end X0 (v := some (.int (nar .boolean (0 : Int32)))) (fun h => by rw [Bd.returns] at h; cases h) Bd.notSynchronized (by decide) (by decide) (Q := (Q_str_lat_2_0 Z t tt c0 c1 k kk h0 n0)) ?_ (fun fs hr => retN X0 hx (t := .boolean) Bd.returns (by simp) (hb hby d16_35) hr)
  unfold Q_str_lat_2_0
  try rw [e0]
  refine ⟨?_, N0, rfl⟩
  simp [own_eqv, nar]
def Q_str_lat_2_1 (Z : State) (t : Addr) (tt : Addr) (c0 : Int32) (c1 : Int32) (d0 : Int32) (k : ClassId) (kk : ClassId) (h0 : Heap) (n0 : Nat) (v : Option Value) (h : Heap) (L : List Loc) : Prop := v = some (.int (own_eqv [c0, c1] [d0])) ∧ Fr n0 L ∧ h = h0
theorem ef_str_lat_2_1 (m : MethodId) (t : Addr) (tt : Addr)  : entryFrame m #[(.ref t), (.ref tt)] 3 = mkF m 0 #[.val (.ref t), .val (.ref tt), .unset] [] := by first | (simp [entryFrame, mkF, argsToLocals, Value.category]; done) | rfl
theorem str_lat_2_1 (l : Launch) (Z : State) (a0 : Array Value) (hw : TW a0 Z) (ws : List Jvm.Cond) (t : Addr) (tt : Addr) (c0 : Int32) (c1 : Int32) (d0 : Int32) (k : ClassId) (kk : ClassId) (h0 : Heap) (n0 : Nat) (Z0 : n0 ≤ h0.size) (Vt : Arv Z h0 t k .byte 2 [(.int c0), (.int c1)] (.int 0)) (Vtt : Arv Z h0 tt kk .byte 1 [(.int d0)] (.int 0)) :
    own_MF l Z MN6 jdk_43_method_13_code 3 (some .boolean) ws (own_R 0 0 0 0) #[(.ref t), (.ref tt)] h0 (Q_str_lat_2_1 Z t tt c0 c1 d0 k kk h0 n0) := by
  have wd := @own_wd _ _ hw
  refine MetFree.of_bodySF (plainFor_of_name pn_java_lang_StringLatin1) hisR ?_
  intro p e s m args below meth c s₁ Bd hml0 hP hK
  obtain ⟨rfl, hZ, hh⟩ := hP
  have hx := Bd.exec
  have hby := Bd.bytes
  have hml : c.maxLocals = 3 := hml0
  have hown : s.vm.findClass "java/lang/StringLatin1" = some m.cls := findClass_of_methodNamed Bd.named
  have hnm := (name_of_methodNamed Bd.named Bd.method).1
  have X0 : Stand p l e (own_R 0 0 0 0) s m #[(.ref t), (.ref tt)] below meth c s₁ [] 0 0 := Stand.of_body Bd
  have e0 : s₁.heap = h0 := by rw [← hh, Bd.state]; rfl
  have N0 := Fr.nil n0
  refine go_of (A := s₁.setTop (entryFrame m #[(.ref t), (.ref tt)] 3)) (B := s₁.setTop (mkF m 0 #[.val (.ref t), .val (.ref tt), .unset] [])) (fun _ kk' => castTop (ef_str_lat_2_1 m t tt) kk') ?_
  refine go_of (B := (s₁.setTop (mkF m 1 #[.val (.ref t), .val (.ref tt), .unset] [(.ref t)]))) (fun _ kk => XS.aloadN X0.here hx rfl (hb hby d16_0) rfl rfl kk) ?_
  obtain ⟨cl1, Ar1, q1, Sz1, Nn1, Hh1, G1⟩ := id (Vt)
  have ln1 := len_of Sz1 Nn1
  refine go_of (B := (s₁.setTop (mkF m 2 #[.val (.ref t), .val (.ref tt), .unset] [(.int (2 : Int32))]))) (fun _ kk => X0.arraylength hx (by rw [e0]; exact Ar1.1) (State.isArrayOf_alike hZ.alike Ar1.2.1) (g := (mkF m 1 #[.val (.ref t), .val (.ref tt), .unset] [(.ref t)])) rfl rfl (hb hby d16_1) _ (by rw [ln1]; exact kk)) ?_
  refine go_of (B := (s₁.setTop (mkF m 3 #[.val (.ref t), .val (.ref tt), .unset] [(.ref tt), (.int (2 : Int32))]))) (fun _ kk => XS.aloadN X0.here hx rfl (hb hby d16_2) rfl rfl kk) ?_
  obtain ⟨cl2, Ar2, q2, Sz2, Nn2, Hh2, G2⟩ := id (Vtt)
  have ln2 := len_of Sz2 Nn2
  refine go_of (B := (s₁.setTop (mkF m 4 #[.val (.ref t), .val (.ref tt), .unset] [(.int (1 : Int32)), (.int (2 : Int32))]))) (fun _ kk => X0.arraylength hx (by rw [e0]; exact Ar2.1) (State.isArrayOf_alike hZ.alike Ar2.2.1) (g := (mkF m 3 #[.val (.ref t), .val (.ref tt), .unset] [(.ref tt), (.int (2 : Int32))])) rfl rfl (hb hby d16_3) _ (by rw [ln2]; exact kk)) ?_
  refine go_of (B := (s₁.setTop (mkF m 35 #[.val (.ref t), .val (.ref tt), .unset] [(.int (0 : Int32))]))) (fun _ kk => XS.icmpYes X0.here hx rfl (pc0 := 4) (pc' := 34) rfl (hb hby d16_4) rfl (feq (by decide : ¬ ((2 : Int32) = (1 : Int32)))).2 (by decide) (by decide) (XS.iconst X0.here hx rfl (hb hby d16_34) kk)) ?_
  refine go_end X0 (v := some (.int (nar .boolean (0 : Int32)))) (fun h => by rw [Bd.returns] at h; cases h) Bd.notSynchronized (by decide) (by decide) (Q := (Q_str_lat_2_1 Z t tt c0 c1 d0 k kk h0 n0)) ?_ (fun fs hr => retN X0 hx (t := .boolean) Bd.returns (by simp) (hb hby d16_35) hr)
  unfold Q_str_lat_2_1
  try rw [e0]
  refine ⟨?_, N0, rfl⟩
  simp [own_eqv, nar]
def Q_str_lat_2_2 (Z : State) (t : Addr) (tt : Addr) (c0 : Int32) (c1 : Int32) (d0 : Int32) (d1 : Int32) (k : ClassId) (kk : ClassId) (h0 : Heap) (n0 : Nat) (v : Option Value) (h : Heap) (L : List Loc) : Prop := v = some (.int (own_eqv [c0, c1] [d0, d1])) ∧ Fr n0 L ∧ h = h0
theorem ef_str_lat_2_2 (m : MethodId) (t : Addr) (tt : Addr)  : entryFrame m #[(.ref t), (.ref tt)] 3 = mkF m 0 #[.val (.ref t), .val (.ref tt), .unset] [] := by first | (simp [entryFrame, mkF, argsToLocals, Value.category]; done) | rfl
theorem str_lat_2_2 (l : Launch) (Z : State) (a0 : Array Value) (hw : TW a0 Z) (ws : List Jvm.Cond) (t : Addr) (tt : Addr) (c0 : Int32) (c1 : Int32) (d0 : Int32) (d1 : Int32) (k : ClassId) (kk : ClassId) (h0 : Heap) (n0 : Nat) (Z0 : n0 ≤ h0.size) (Vt : Arv Z h0 t k .byte 2 [(.int c0), (.int c1)] (.int 0)) (Vtt : Arv Z h0 tt kk .byte 2 [(.int d0), (.int d1)] (.int 0)) :
    own_MF l Z MN6 jdk_43_method_13_code 3 (some .boolean) ws (own_R 0 0 0 0) #[(.ref t), (.ref tt)] h0 (Q_str_lat_2_2 Z t tt c0 c1 d0 d1 k kk h0 n0) := by
  have wd := @own_wd _ _ hw
  refine MetFree.of_bodySF (plainFor_of_name pn_java_lang_StringLatin1) hisR ?_
  intro p e s m args below meth c s₁ Bd hml0 hP hK
  obtain ⟨rfl, hZ, hh⟩ := hP
  have hx := Bd.exec
  have hby := Bd.bytes
  have hml : c.maxLocals = 3 := hml0
  have hown : s.vm.findClass "java/lang/StringLatin1" = some m.cls := findClass_of_methodNamed Bd.named
  have hnm := (name_of_methodNamed Bd.named Bd.method).1
  have X0 : Stand p l e (own_R 0 0 0 0) s m #[(.ref t), (.ref tt)] below meth c s₁ [] 0 0 := Stand.of_body Bd
  have e0 : s₁.heap = h0 := by rw [← hh, Bd.state]; rfl
  have N0 := Fr.nil n0
  refine go_of (A := s₁.setTop (entryFrame m #[(.ref t), (.ref tt)] 3)) (B := s₁.setTop (mkF m 0 #[.val (.ref t), .val (.ref tt), .unset] [])) (fun _ kk' => castTop (ef_str_lat_2_2 m t tt) kk') ?_
  refine go_of (B := (s₁.setTop (mkF m 1 #[.val (.ref t), .val (.ref tt), .unset] [(.ref t)]))) (fun _ kk => XS.aloadN X0.here hx rfl (hb hby d16_0) rfl rfl kk) ?_
  obtain ⟨cl1, Ar1, q1, Sz1, Nn1, Hh1, G1⟩ := id (Vt)
  have ln1 := len_of Sz1 Nn1
  refine go_of (B := (s₁.setTop (mkF m 2 #[.val (.ref t), .val (.ref tt), .unset] [(.int (2 : Int32))]))) (fun _ kk => X0.arraylength hx (by rw [e0]; exact Ar1.1) (State.isArrayOf_alike hZ.alike Ar1.2.1) (g := (mkF m 1 #[.val (.ref t), .val (.ref tt), .unset] [(.ref t)])) rfl rfl (hb hby d16_1) _ (by rw [ln1]; exact kk)) ?_
  refine go_of (B := (s₁.setTop (mkF m 3 #[.val (.ref t), .val (.ref tt), .unset] [(.ref tt), (.int (2 : Int32))]))) (fun _ kk => XS.aloadN X0.here hx rfl (hb hby d16_2) rfl rfl kk) ?_
  obtain ⟨cl2, Ar2, q2, Sz2, Nn2, Hh2, G2⟩ := id (Vtt)
  have ln2 := len_of Sz2 Nn2
  refine go_of (B := (s₁.setTop (mkF m 4 #[.val (.ref t), .val (.ref tt), .unset] [(.int (2 : Int32)), (.int (2 : Int32))]))) (fun _ kk => X0.arraylength hx (by rw [e0]; exact Ar2.1) (State.isArrayOf_alike hZ.alike Ar2.2.1) (g := (mkF m 3 #[.val (.ref t), .val (.ref tt), .unset] [(.ref tt), (.int (2 : Int32))])) rfl rfl (hb hby d16_3) _ (by rw [ln2]; exact kk)) ?_
  refine go_of (B := (s₁.setTop (mkF m 11 #[.val (.ref t), .val (.ref tt), .val (.int (0 : Int32))] [(.ref t), (.int (0 : Int32))]))) (fun _ kk => XS.icmpNo X0.here hx rfl (hb hby d16_4) rfl (teq (by decide : (2 : Int32) = (2 : Int32))).2 (XS.iconst X0.here hx rfl (hb hby d16_7) (XS.istoreN X0.here hx rfl (hb hby d16_8) rfl rfl (XS.iloadN X0.here hx rfl (hb hby d16_9) rfl (XS.aloadN X0.here hx rfl (hb hby d16_10) rfl rfl kk))))) ?_
  obtain ⟨cl3, Ar3, q3, Sz3, Nn3, Hh3, G3⟩ := id (Vt)
  have ln3 := len_of Sz3 Nn3
  refine go_of (B := (s₁.setTop (mkF m 12 #[.val (.ref t), .val (.ref tt), .val (.int (0 : Int32))] [(.int (2 : Int32)), (.int (0 : Int32))]))) (fun _ kk => X0.arraylength hx (by rw [e0]; exact Ar3.1) (State.isArrayOf_alike hZ.alike Ar3.2.1) (g := (mkF m 11 #[.val (.ref t), .val (.ref tt), .val (.int (0 : Int32))] [(.ref t), (.int (0 : Int32))])) rfl rfl (hb hby d16_11) _ (by rw [ln3]; exact kk)) ?_
  refine go_of (B := (s₁.setTop (mkF m 17 #[.val (.ref t), .val (.ref tt), .val (.int (0 : Int32))] [(.int (0 : Int32)), (.ref t)]))) (fun _ kk => XS.icmpNo X0.here hx rfl (hb hby d16_12) rfl (tlt (by decide : (0 : Int32) < (2 : Int32))).2.1 (XS.aloadN X0.here hx rfl (hb hby d16_15) rfl rfl (XS.iloadN X0.here hx rfl (hb hby d16_16) rfl kk))) ?_
  obtain ⟨cl4, Ar4, q4, Sz4, Nn4, Hh4, G4⟩ := id (Vt)
  refine go_of (B := (s₁.setTop (mkF m 20 #[.val (.ref t), .val (.ref tt), .val (.int (0 : Int32))] [(.int (0 : Int32)), (.ref tt), (.int c0)]))) (fun _ kk => X0.baloadBytes hx (j := (0 : Int32)) (v := (.int c0)) (by rw [e0]; exact Ar4.1) (State.isArrayOf_alike hZ.alike Ar4.2.1) Ar4.2.2 (inb_of Sz4 ⟨by decide, by decide⟩) (Hh4.at (inb_of Sz4 ⟨by decide, by decide⟩) rfl) (g := (mkF m 17 #[.val (.ref t), .val (.ref tt), .val (.int (0 : Int32))] [(.int (0 : Int32)), (.ref t)])) rfl rfl (hb hby d16_17) _ (XS.aloadN X0.here hx rfl (hb hby d16_18) rfl rfl (XS.iloadN X0.here hx rfl (hb hby d16_19) rfl kk))) ?_
  obtain ⟨cl5, Ar5, q5, Sz5, Nn5, Hh5, G5⟩ := id (Vtt)
  refine go_of (B := (s₁.setTop (mkF m 21 #[.val (.ref t), .val (.ref tt), .val (.int (0 : Int32))] [(.int d0), (.int c0)]))) (fun _ kk => X0.baloadBytes hx (j := (0 : Int32)) (v := (.int d0)) (by rw [e0]; exact Ar5.1) (State.isArrayOf_alike hZ.alike Ar5.2.1) Ar5.2.2 (inb_of Sz5 ⟨by decide, by decide⟩) (Hh5.at (inb_of Sz5 ⟨by decide, by decide⟩) rfl) (g := (mkF m 20 #[.val (.ref t), .val (.ref tt), .val (.int (0 : Int32))] [(.int (0 : Int32)), (.ref tt), (.int c0)])) rfl rfl (hb hby d16_20) _ kk) ?_
  by_cases hcc6 : c0 = d0
  · refine go_of (B := (s₁.setTop (mkF m 11 #[.val (.ref t), .val (.ref tt), .val (.int (1 : Int32))] [(.ref t), (.int (1 : Int32))]))) (fun _ kk => XS.icmpYes X0.here hx rfl (pc0 := 21) (pc' := 26) rfl (hb hby d16_21) rfl (teq hcc6).1 (by decide) (by decide) (XS.iinc X0.here hx rfl (hb hby d16_26) rfl rfl (XS.goto X0.here hx rfl (pc0 := 29) (pc' := 9) rfl (hb hby d16_29) (by decide) (by decide) (XS.iloadN X0.here hx rfl (hb hby d16_9) rfl (XS.aloadN X0.here hx rfl (hb hby d16_10) rfl rfl kk))))) ?_
    obtain ⟨cl7, Ar7, q7, Sz7, Nn7, Hh7, G7⟩ := id (Vt)
    have ln7 := len_of Sz7 Nn7
    refine go_of (B := (s₁.setTop (mkF m 12 #[.val (.ref t), .val (.ref tt), .val (.int (1 : Int32))] [(.int (2 : Int32)), (.int (1 : Int32))]))) (fun _ kk => X0.arraylength hx (by rw [e0]; exact Ar7.1) (State.isArrayOf_alike hZ.alike Ar7.2.1) (g := (mkF m 11 #[.val (.ref t), .val (.ref tt), .val (.int (1 : Int32))] [(.ref t), (.int (1 : Int32))])) rfl rfl (hb hby d16_11) _ (by rw [ln7]; exact kk)) ?_
    refine go_of (B := (s₁.setTop (mkF m 17 #[.val (.ref t), .val (.ref tt), .val (.int (1 : Int32))] [(.int (1 : Int32)), (.ref t)]))) (fun _ kk => XS.icmpNo X0.here hx rfl (hb hby d16_12) rfl (tlt (by decide : (1 : Int32) < (2 : Int32))).2.1 (XS.aloadN X0.here hx rfl (hb hby d16_15) rfl rfl (XS.iloadN X0.here hx rfl (hb hby d16_16) rfl kk))) ?_
    obtain ⟨cl8, Ar8, q8, Sz8, Nn8, Hh8, G8⟩ := id (Vt)
    refine go_of (B := (s₁.setTop (mkF m 20 #[.val (.ref t), .val (.ref tt), .val (.int (1 : Int32))] [(.int (1 : Int32)), (.ref tt), (.int c1)]))) (fun _ kk => X0.baloadBytes hx (j := (1 : Int32)) (v := (.int c1)) (by rw [e0]; exact Ar8.1) (State.isArrayOf_alike hZ.alike Ar8.2.1) Ar8.2.2 (inb_of Sz8 ⟨by decide, by decide⟩) (Hh8.at (inb_of Sz8 ⟨by decide, by decide⟩) rfl) (g := (mkF m 17 #[.val (.ref t), .val (.ref tt), .val (.int (1 : Int32))] [(.int (1 : Int32)), (.ref t)])) rfl rfl (hb hby d16_17) _ (XS.aloadN X0.here hx rfl (hb hby d16_18) rfl rfl (XS.iloadN X0.here hx rfl (hb hby d16_19) rfl kk))) ?_
    obtain ⟨cl9, Ar9, q9, Sz9, Nn9, Hh9, G9⟩ := id (Vtt)
    refine go_of (B := (s₁.setTop (mkF m 21 #[.val (.ref t), .val (.ref tt), .val (.int (1 : Int32))] [(.int d1), (.int c1)]))) (fun _ kk => X0.baloadBytes hx (j := (1 : Int32)) (v := (.int d1)) (by rw [e0]; exact Ar9.1) (State.isArrayOf_alike hZ.alike Ar9.2.1) Ar9.2.2 (inb_of Sz9 ⟨by decide, by decide⟩) (Hh9.at (inb_of Sz9 ⟨by decide, by decide⟩) rfl) (g := (mkF m 20 #[.val (.ref t), .val (.ref tt), .val (.int (1 : Int32))] [(.int (1 : Int32)), (.ref tt), (.int c1)])) rfl rfl (hb hby d16_20) _ kk) ?_
    by_cases hcc10 : c1 = d1
    · refine go_of (B := (s₁.setTop (mkF m 11 #[.val (.ref t), .val (.ref tt), .val (.int (2 : Int32))] [(.ref t), (.int (2 : Int32))]))) (fun _ kk => XS.icmpYes X0.here hx rfl (pc0 := 21) (pc' := 26) rfl (hb hby d16_21) rfl (teq hcc10).1 (by decide) (by decide) (XS.iinc X0.here hx rfl (hb hby d16_26) rfl rfl (XS.goto X0.here hx rfl (pc0 := 29) (pc' := 9) rfl (hb hby d16_29) (by decide) (by decide) (XS.iloadN X0.here hx rfl (hb hby d16_9) rfl (XS.aloadN X0.here hx rfl (hb hby d16_10) rfl rfl kk))))) ?_
      obtain ⟨cl11, Ar11, q11, Sz11, Nn11, Hh11, G11⟩ := id (Vt)
      have ln11 := len_of Sz11 Nn11
      refine go_of (B := (s₁.setTop (mkF m 12 #[.val (.ref t), .val (.ref tt), .val (.int (2 : Int32))] [(.int (2 : Int32)), (.int (2 : Int32))]))) (fun _ kk => X0.arraylength hx (by rw [e0]; exact Ar11.1) (State.isArrayOf_alike hZ.alike Ar11.2.1) (g := (mkF m 11 #[.val (.ref t), .val (.ref tt), .val (.int (2 : Int32))] [(.ref t), (.int (2 : Int32))])) rfl rfl (hb hby d16_11) _ (by rw [ln11]; exact kk)) ?_
      refine go_of (B := (s₁.setTop (mkF m 33 #[.val (.ref t), .val (.ref tt), .val (.int (2 : Int32))] [(.int (1 : Int32))]))) (fun _ kk => XS.icmpYes X0.here hx rfl (pc0 := 12) (pc' := 32) rfl (hb hby d16_12) rfl (flt (by decide : ¬ ((2 : Int32) < (2 : Int32)))).2.1 (by decide) (by decide) (XS.iconst X0.here hx rfl (hb hby d16_32) kk)) ?_
      refine go_end X0 (v := some (.int (nar .boolean (1 : Int32)))) (fun h => by rw [Bd.returns] at h; cases h) Bd.notSynchronized (by decide) (by decide) (Q := (Q_str_lat_2_2 Z t tt c0 c1 d0 d1 k kk h0 n0)) ?_ (fun fs hr => retN X0 hx (t := .boolean) Bd.returns (by simp) (hb hby d16_33) hr)
      unfold Q_str_lat_2_2
      try rw [e0]
      refine ⟨?_, N0, rfl⟩
      simp [own_eqv, nar, hcc6, hcc10]
    · refine go_of (B := (s₁.setTop (mkF m 25 #[.val (.ref t), .val (.ref tt), .val (.int (1 : Int32))] [(.int (0 : Int32))]))) (fun _ kk => XS.icmpNo X0.here hx rfl (hb hby d16_21) rfl (feq hcc10).1 (XS.iconst X0.here hx rfl (hb hby d16_24) kk)) ?_
      refine go_end X0 (v := some (.int (nar .boolean (0 : Int32)))) (fun h => by rw [Bd.returns] at h; cases h) Bd.notSynchronized (by decide) (by decide) (Q := (Q_str_lat_2_2 Z t tt c0 c1 d0 d1 k kk h0 n0)) ?_ (fun fs hr => retN X0 hx (t := .boolean) Bd.returns (by simp) (hb hby d16_25) hr)
      unfold Q_str_lat_2_2
      try rw [e0]
      refine ⟨?_, N0, rfl⟩
      simp [own_eqv, nar, hcc6, hcc10]
  · refine go_of (B := (s₁.setTop (mkF m 25 #[.val (.ref t), .val (.ref tt), .val (.int (0 : Int32))] [(.int (0 : Int32))]))) (fun _ kk => XS.icmpNo X0.here hx rfl (hb hby d16_21) rfl (feq hcc6).1 (XS.iconst X0.here hx rfl (hb hby d16_24) kk)) ?_
    refine go_end X0 (v := some (.int (nar .boolean (0 : Int32)))) (fun h => by rw [Bd.returns] at h; cases h) Bd.notSynchronized (by decide) (by decide) (Q := (Q_str_lat_2_2 Z t tt c0 c1 d0 d1 k kk h0 n0)) ?_ (fun fs hr => retN X0 hx (t := .boolean) Bd.returns (by simp) (hb hby d16_25) hr)
    unfold Q_str_lat_2_2
    try rw [e0]
    refine ⟨?_, N0, rfl⟩
    simp [own_eqv, nar, hcc6]
theorem d15_0 : decode jdk_42_method_66_code 0 = .ok (.aload_n 0, 1) := by decide +kernel
theorem d15_1 : decode jdk_42_method_66_code 1 = .ok (.aload_n 1, 1) := by decide +kernel
theorem d15_2 : decode jdk_42_method_66_code 2 = .ok (.if_acmp .ne 5, 3) := by decide +kernel
theorem d15_5 : decode jdk_42_method_66_code 5 = .ok (.iconst 1, 1) := by decide +kernel
theorem d15_6 : decode jdk_42_method_66_code 6 = .ok (.ireturn, 1) := by decide +kernel
def Q_str_eq_0_0 (Z : State) (a : Addr) (bb : Addr) (gC : Int32) (h0 : Heap) (n0 : Nat) (v : Option Value) (h : Heap) (L : List Loc) : Prop := v = some (.int (own_eqv [] [])) ∧ Fr n0 L ∧ h = h0
theorem d15_7 : decode jdk_42_method_66_code 7 = .ok (.aload_n 1, 1) := by decide +kernel
theorem d15_8 : decode jdk_42_method_66_code 8 = .ok (.instanceof 10, 3) := by decide +kernel
theorem d15_11 : decode jdk_42_method_66_code 11 = .ok (.ifCond .eq 43, 3) := by decide +kernel
theorem d15_14 : decode jdk_42_method_66_code 14 = .ok (.aload_n 1, 1) := by decide +kernel
theorem d15_15 : decode jdk_42_method_66_code 15 = .ok (.checkcast 10, 3) := by decide +kernel
theorem d15_18 : decode jdk_42_method_66_code 18 = .ok (.astore_n 2, 1) := by decide +kernel
theorem d15_19 : decode jdk_42_method_66_code 19 = .ok (.getstatic 38, 3) := by decide +kernel
theorem d15_22 : decode jdk_42_method_66_code 22 = .ok (.ifCond .eq 14, 3) := by decide +kernel
theorem d15_25 : decode jdk_42_method_66_code 25 = .ok (.aload_n 0, 1) := by decide +kernel
theorem d15_26 : decode jdk_42_method_66_code 26 = .ok (.getfield 15, 3) := by decide +kernel
theorem d15_29 : decode jdk_42_method_66_code 29 = .ok (.aload_n 2, 1) := by decide +kernel
theorem d15_30 : decode jdk_42_method_66_code 30 = .ok (.getfield 15, 3) := by decide +kernel
theorem d15_33 : decode jdk_42_method_66_code 33 = .ok (.if_icmp .ne 21, 3) := by decide +kernel
theorem d15_36 : decode jdk_42_method_66_code 36 = .ok (.aload_n 0, 1) := by decide +kernel
theorem d15_37 : decode jdk_42_method_66_code 37 = .ok (.getfield 9, 3) := by decide +kernel
theorem d15_40 : decode jdk_42_method_66_code 40 = .ok (.aload_n 2, 1) := by decide +kernel
theorem d15_41 : decode jdk_42_method_66_code 41 = .ok (.getfield 9, 3) := by decide +kernel
theorem d15_44 : decode jdk_42_method_66_code 44 = .ok (.invokestatic 541, 3) := by decide +kernel
theorem pd___B_B_Z : parseMethodDescriptor "([B[B)Z" = some ⟨[(.array .byte), (.array .byte)], some .boolean⟩ := by decide +kernel
theorem d15_47 : decode jdk_42_method_66_code 47 = .ok (.ifCond .eq 7, 3) := by decide +kernel
theorem d15_54 : decode jdk_42_method_66_code 54 = .ok (.iconst 0, 1) := by decide +kernel
theorem d15_55 : decode jdk_42_method_66_code 55 = .ok (.ireturn, 1) := by decide +kernel
theorem d15_50 : decode jdk_42_method_66_code 50 = .ok (.iconst 1, 1) := by decide +kernel
theorem d15_51 : decode jdk_42_method_66_code 51 = .ok (.goto 4, 3) := by decide +kernel
theorem pn_java_lang_String : plainName "java/lang/String" = true := by first | (simp [plainName, overriddenIn]; done) | decide +kernel
theorem ef_str_eq_0_0 (m : MethodId) (a : Addr) (bb : Addr)  : entryFrame m #[(.ref a), (.ref bb)] 3 = mkF m 0 #[.val (.ref a), .val (.ref bb), .unset] [] := by first | (simp [entryFrame, mkF, argsToLocals, Value.category]; done) | rfl
theorem str_eq_0_0 (l : Launch) (Z : State) (a0 : Array Value) (hw : TW a0 Z) (ws : List Jvm.Cond) (a : Addr) (bb : Addr) (gC : Int32) (h0 : Heap) (n0 : Nat) (Z0 : n0 ≤ h0.size) (O : Old Z n0 h0) (SC : Sta Z Z.heap "java/lang/String" "COMPACT_STRINGS" "Z" (.int gC)) (hgC : ¬ gC = (0 : Int32)) (S1 : Str Z h0 a 0 []) (S2 : Str Z h0 bb 0 []) (hab : a = bb → ([] : List Int32) = []) :
    own_MF l Z MN5 jdk_42_method_66_code 3 (some .boolean) ws (own_R 1 0 0 14) #[(.ref a), (.ref bb)] h0 (Q_str_eq_0_0 Z a bb gC h0 n0) := by
  have wd := @own_wd _ _ hw
  refine MetFree.of_bodySF (plainFor_of_name pn_java_lang_String) hisR ?_
  intro p e s m args below meth c s₁ Bd hml0 hP hK
  obtain ⟨rfl, hZ, hh⟩ := hP
  have hx := Bd.exec
  have hby := Bd.bytes
  have hml : c.maxLocals = 3 := hml0
  have hown : s.vm.findClass "java/lang/String" = some m.cls := findClass_of_methodNamed Bd.named
  have hnm := (name_of_methodNamed Bd.named Bd.method).1
  have X0 : Stand p l e (own_R 1 0 0 14) s m #[(.ref a), (.ref bb)] below meth c s₁ [] 0 0 := Stand.of_body Bd
  have e0 : s₁.heap = h0 := by rw [← hh, Bd.state]; rfl
  have N0 := Fr.nil n0
  obtain ⟨t, k, Ea, Fc, Fv, Va, hcs⟩ := S1
  obtain ⟨tt, kk, Eb, Fcb, Fvb, Vb, hds⟩ := S2
  refine go_of (A := s₁.setTop (entryFrame m #[(.ref a), (.ref bb)] 3)) (B := s₁.setTop (mkF m 0 #[.val (.ref a), .val (.ref bb), .unset] [])) (fun _ kk' => castTop (ef_str_eq_0_0 m a bb) kk') ?_
  refine go_of (B := (s₁.setTop (mkF m 2 #[.val (.ref a), .val (.ref bb), .unset] [(.ref bb), (.ref a)]))) (fun _ kk => XS.aloadN X0.here hx rfl (hb hby d15_0) rfl rfl (XS.aloadN X0.here hx rfl (hb hby d15_1) rfl rfl kk)) ?_
  by_cases ha1 : a = bb
  · refine go_of (B := (s₁.setTop (mkF m 6 #[.val (.ref a), .val (.ref bb), .unset] [(.int (1 : Int32))]))) (fun _ kk => Jvm.RoadKit.acmp (g := (mkF m 2 #[.val (.ref a), .val (.ref bb), .unset] [(.ref bb), (.ref a)])) X0 hx rfl rfl rfl (pc0 := 2) (pc' := 5) (same := true) rfl (hb hby d15_2) rfl (decide_eq_true (congrArg Value.ref ha1)) (by decide) (by decide) (XS.iconst X0.here hx rfl (hb hby d15_5) kk)) ?_
    refine go_end X0 (v := some (.int (nar .boolean (1 : Int32)))) (fun h => by rw [Bd.returns] at h; cases h) Bd.notSynchronized (by decide) (by decide) (Q := (Q_str_eq_0_0 Z a bb gC h0 n0)) ?_ (fun fs hr => retN X0 hx (t := .boolean) Bd.returns (by simp) (hb hby d15_6) hr)
    unfold Q_str_eq_0_0
    try rw [e0]
    refine ⟨?_, N0, rfl⟩
    have hq := hab ha1
    simp only [own_eqv, if_pos hq]; rfl
  · refine go_of (B := (s₁.setTop (mkF m 8 #[.val (.ref a), .val (.ref bb), .unset] [(.ref bb)]))) (fun _ kk => Jvm.RoadKit.acmp (g := (mkF m 2 #[.val (.ref a), .val (.ref bb), .unset] [(.ref bb), (.ref a)])) X0 hx rfl rfl rfl (pc0 := 2) (pc' := 7) (same := false) rfl (hb hby d15_2) rfl (decide_eq_false fun q => ha1 (Value.ref.inj q)) (by decide) (by decide) (XS.aloadN X0.here hx rfl (hb hby d15_7) rfl rfl kk)) ?_
    obtain ⟨T2, X2, e2, st2⟩ := instY X0 hx hZ hown (wd 57 rfl) e0 (Ins.self Eb) (g := (mkF m 8 #[.val (.ref a), .val (.ref bb), .unset] [(.ref bb)])) rfl rfl (hb hby d15_8)
    refine go_of (B := (T2.setTop (mkF m 11 #[.val (.ref a), .val (.ref bb), .unset] [(.int (1 : Int32))]))) (st2) ?_
    refine go_of (B := (T2.setTop (mkF m 15 #[.val (.ref a), .val (.ref bb), .unset] [(.ref bb)]))) (fun _ kk => XS.ifNo X2.here hx rfl (hb hby d15_11) rfl ((if0 _ _).trans (feq (by decide : ¬ ((1 : Int32) = (0 : Int32)))).1) (XS.aloadN X2.here hx rfl (hb hby d15_14) rfl rfl kk)) ?_
    obtain ⟨T3, X3, e3, st3⟩ := castY X2 hx hZ hown (wd 57 rfl) e2 (Ins.self Eb) (g := (mkF m 15 #[.val (.ref a), .val (.ref bb), .unset] [(.ref bb)])) rfl rfl (hb hby d15_15)
    refine go_of (B := (T3.setTop (mkF m 18 #[.val (.ref a), .val (.ref bb), .unset] [(.ref bb)]))) (st3) ?_
    refine go_of (B := (T3.setTop (mkF m 19 #[.val (.ref a), .val (.ref bb), .val (.ref bb)] []))) (fun _ kk => XS.astoreN X3.here hx rfl (hb hby d15_18) rfl rfl rfl kk) ?_
    obtain ⟨T4, X4, e4, st4⟩ := getS2 X3 hx hZ hown (host := "") (Or.inl (wd 52 rfl)) Via.refl e3 (SC.ext O.2) (g := (mkF m 19 #[.val (.ref a), .val (.ref bb), .val (.ref bb)] [])) rfl (hb hby d15_19)
    refine go_of (B := (T4.setTop (mkF m 22 #[.val (.ref a), .val (.ref bb), .val (.ref bb)] [(.int gC)]))) (st4) ?_
    refine go_of (B := (T4.setTop (mkF m 26 #[.val (.ref a), .val (.ref bb), .val (.ref bb)] [(.ref a)]))) (fun _ kk => XS.ifNo X4.here hx rfl (hb hby d15_22) rfl ((if0 _ _).trans (feq hgC).1) (XS.aloadN X4.here hx rfl (hb hby d15_25) rfl rfl kk)) ?_
    obtain ⟨T5, X5, e5, st5⟩ := getF X4 hx hZ hown (host := "") (Or.inl (wd 25 rfl)) Via.refl e4 Fc (g := (mkF m 26 #[.val (.ref a), .val (.ref bb), .val (.ref bb)] [(.ref a)])) rfl rfl (hb hby d15_26)
    refine go_of (B := (T5.setTop (mkF m 29 #[.val (.ref a), .val (.ref bb), .val (.ref bb)] [(.int (0 : Int32))]))) (st5) ?_
    refine go_of (B := (T5.setTop (mkF m 30 #[.val (.ref a), .val (.ref bb), .val (.ref bb)] [(.ref bb), (.int (0 : Int32))]))) (fun _ kk => XS.aloadN X5.here hx rfl (hb hby d15_29) rfl rfl kk) ?_
    obtain ⟨T6, X6, e6, st6⟩ := getF X5 hx hZ hown (host := "") (Or.inl (wd 25 rfl)) Via.refl e5 Fcb (g := (mkF m 30 #[.val (.ref a), .val (.ref bb), .val (.ref bb)] [(.ref bb), (.int (0 : Int32))])) rfl rfl (hb hby d15_30)
    refine go_of (B := (T6.setTop (mkF m 33 #[.val (.ref a), .val (.ref bb), .val (.ref bb)] [(.int (0 : Int32)), (.int (0 : Int32))]))) (st6) ?_
    refine go_of (B := (T6.setTop (mkF m 37 #[.val (.ref a), .val (.ref bb), .val (.ref bb)] [(.ref a)]))) (fun _ kk => XS.icmpNo X6.here hx rfl (hb hby d15_33) rfl (teq (by decide : (0 : Int32) = (0 : Int32))).2 (XS.aloadN X6.here hx rfl (hb hby d15_36) rfl rfl kk)) ?_
    obtain ⟨T7, X7, e7, st7⟩ := getF X6 hx hZ hown (host := "") (Or.inl (wd 24 rfl)) Via.refl e6 Fv (g := (mkF m 37 #[.val (.ref a), .val (.ref bb), .val (.ref bb)] [(.ref a)])) rfl rfl (hb hby d15_37)
    refine go_of (B := (T7.setTop (mkF m 40 #[.val (.ref a), .val (.ref bb), .val (.ref bb)] [(.ref t)]))) (st7) ?_
    refine go_of (B := (T7.setTop (mkF m 41 #[.val (.ref a), .val (.ref bb), .val (.ref bb)] [(.ref bb), (.ref t)]))) (fun _ kk => XS.aloadN X7.here hx rfl (hb hby d15_40) rfl rfl kk) ?_
    obtain ⟨T8, X8, e8, st8⟩ := getF X7 hx hZ hown (host := "") (Or.inl (wd 24 rfl)) Via.refl e7 Fvb (g := (mkF m 41 #[.val (.ref a), .val (.ref bb), .val (.ref bb)] [(.ref bb), (.ref t)])) rfl rfl (hb hby d15_41)
    refine go_of (B := (T8.setTop (mkF m 44 #[.val (.ref a), .val (.ref bb), .val (.ref bb)] [(.ref tt), (.ref t)]))) (st8) ?_
    obtain ⟨_, _, ⟨T9, L9, k9, n9⟩, -, X9, ⟨Lc9, hQ9, l9, y9, z9⟩, st9⟩ := Jvm.LawKit.callS X8 hx (y := MN6) hown (mvT hZ (wd 79 rfl)) (mvT hZ (wd 80 rfl)) (mvT hZ (wd 55 rfl)) (mvT hZ (wd 81 rfl)) (by decide) (backOf (W := 0) (str_lat_0_0 l Z a0 hw [] t tt  k kk h0 n0 Z0 Va Vb) hZ (wd 81 rfl) (wd 55 rfl) (by decide) (by decide)) (g := (mkF m 44 #[.val (.ref a), .val (.ref bb), .val (.ref bb)] [(.ref tt), (.ref t)])) rfl (by rw [hml]; rfl) (argsL := [(.ref t), (.ref tt)]) (rest := []) (lenOf pd___B_B_Z rfl) rfl (by show 2 * 0 + _ ≤ _; exact Nat.le_of_eq rfl) (hb hby d15_44) (fun _ _ => ⟨rfl, e8, (by decide : 0 + 0 ≤ _), (by decide : 0 + 0 ≤ _)⟩)
    dsimp only [Pt.U, Pt.locs, Pt.cells, Pt.slots] at X9 l9 y9 z9 st9 hQ9
    subst l9 y9 z9
    obtain ⟨rfl, N9q, e9⟩ := hQ9
    have N9 := Fr.app N0 N9q
    refine go_of (B := (T9.setTop (mkF m 47 #[.val (.ref a), .val (.ref bb), .val (.ref bb)] [(.int (own_eqv [] []))]))) (st9) ?_
    by_cases hcc10 : (own_eqv [] []) = (0 : Int32)
    · refine go_of (B := (T9.setTop (mkF m 55 #[.val (.ref a), .val (.ref bb), .val (.ref bb)] [(.int (0 : Int32))]))) (fun _ kk => XS.ifYes X9.here hx rfl (pc0 := 47) (pc' := 54) rfl (hb hby d15_47) rfl ((if0 _ _).trans (teq hcc10).1) (by decide) (by decide) (XS.iconst X9.here hx rfl (hb hby d15_54) kk)) ?_
      refine go_end X9 (v := some (.int (nar .boolean (0 : Int32)))) (fun h => by rw [Bd.returns] at h; cases h) Bd.notSynchronized (by decide) (by decide) (Q := (Q_str_eq_0_0 Z a bb gC h0 n0)) ?_ (fun fs hr => retN X9 hx (t := .boolean) Bd.returns (by simp) (hb hby d15_55) hr)
      unfold Q_str_eq_0_0
      try rw [e9]
      refine ⟨?_, N9, rfl⟩
      have hq := hcc10
      rw [own_eqv0, show ([] = []) = (List.map own_b8 [] = List.map own_b8 []) from rfl, own_eqmap [] [] hcs hds] at hq
      unfold own_eqv; simp only [hq, not_false_eq_true, if_true, if_false, nar, ↓reduceIte]; first | rfl | simp_all [nar]
    · refine go_of (B := (T9.setTop (mkF m 55 #[.val (.ref a), .val (.ref bb), .val (.ref bb)] [(.int (1 : Int32))]))) (fun _ kk => XS.ifNo X9.here hx rfl (hb hby d15_47) rfl ((if0 _ _).trans (feq hcc10).1) (XS.iconst X9.here hx rfl (hb hby d15_50) (XS.goto X9.here hx rfl (pc0 := 51) (pc' := 55) rfl (hb hby d15_51) (by decide) (by decide) kk))) ?_
      refine go_end X9 (v := some (.int (nar .boolean (1 : Int32)))) (fun h => by rw [Bd.returns] at h; cases h) Bd.notSynchronized (by decide) (by decide) (Q := (Q_str_eq_0_0 Z a bb gC h0 n0)) ?_ (fun fs hr => retN X9 hx (t := .boolean) Bd.returns (by simp) (hb hby d15_55) hr)
      unfold Q_str_eq_0_0
      try rw [e9]
      refine ⟨?_, N9, rfl⟩
      have hq := hcc10
      rw [own_eqv0, show ([] = []) = (List.map own_b8 [] = List.map own_b8 []) from rfl, own_eqmap [] [] hcs hds] at hq
      unfold own_eqv; simp only [hq, not_false_eq_true, if_true, if_false, nar, ↓reduceIte]; first | rfl | simp_all [nar]
def Q_str_eq_0_1 (Z : State) (a : Addr) (bb : Addr) (d0 : Int32) (gC : Int32) (h0 : Heap) (n0 : Nat) (v : Option Value) (h : Heap) (L : List Loc) : Prop := v = some (.int (own_eqv [] [d0])) ∧ Fr n0 L ∧ h = h0
theorem ef_str_eq_0_1 (m : MethodId) (a : Addr) (bb : Addr)  : entryFrame m #[(.ref a), (.ref bb)] 3 = mkF m 0 #[.val (.ref a), .val (.ref bb), .unset] [] := by first | (simp [entryFrame, mkF, argsToLocals, Value.category]; done) | rfl
theorem str_eq_0_1 (l : Launch) (Z : State) (a0 : Array Value) (hw : TW a0 Z) (ws : List Jvm.Cond) (a : Addr) (bb : Addr) (d0 : Int32) (gC : Int32) (h0 : Heap) (n0 : Nat) (Z0 : n0 ≤ h0.size) (O : Old Z n0 h0) (SC : Sta Z Z.heap "java/lang/String" "COMPACT_STRINGS" "Z" (.int gC)) (hgC : ¬ gC = (0 : Int32)) (S1 : Str Z h0 a 0 []) (S2 : Str Z h0 bb 1 [d0]) (hab : a = bb → ([] : List Int32) = [d0]) :
    own_MF l Z MN5 jdk_42_method_66_code 3 (some .boolean) ws (own_R 1 0 0 14) #[(.ref a), (.ref bb)] h0 (Q_str_eq_0_1 Z a bb d0 gC h0 n0) := by
  have wd := @own_wd _ _ hw
  refine MetFree.of_bodySF (plainFor_of_name pn_java_lang_String) hisR ?_
  intro p e s m args below meth c s₁ Bd hml0 hP hK
  obtain ⟨rfl, hZ, hh⟩ := hP
  have hx := Bd.exec
  have hby := Bd.bytes
  have hml : c.maxLocals = 3 := hml0
  have hown : s.vm.findClass "java/lang/String" = some m.cls := findClass_of_methodNamed Bd.named
  have hnm := (name_of_methodNamed Bd.named Bd.method).1
  have X0 : Stand p l e (own_R 1 0 0 14) s m #[(.ref a), (.ref bb)] below meth c s₁ [] 0 0 := Stand.of_body Bd
  have e0 : s₁.heap = h0 := by rw [← hh, Bd.state]; rfl
  have N0 := Fr.nil n0
  obtain ⟨t, k, Ea, Fc, Fv, Va, hcs⟩ := S1
  obtain ⟨tt, kk, Eb, Fcb, Fvb, Vb, hds⟩ := S2
  refine go_of (A := s₁.setTop (entryFrame m #[(.ref a), (.ref bb)] 3)) (B := s₁.setTop (mkF m 0 #[.val (.ref a), .val (.ref bb), .unset] [])) (fun _ kk' => castTop (ef_str_eq_0_1 m a bb) kk') ?_
  refine go_of (B := (s₁.setTop (mkF m 2 #[.val (.ref a), .val (.ref bb), .unset] [(.ref bb), (.ref a)]))) (fun _ kk => XS.aloadN X0.here hx rfl (hb hby d15_0) rfl rfl (XS.aloadN X0.here hx rfl (hb hby d15_1) rfl rfl kk)) ?_
  by_cases ha1 : a = bb
  · refine go_of (B := (s₁.setTop (mkF m 6 #[.val (.ref a), .val (.ref bb), .unset] [(.int (1 : Int32))]))) (fun _ kk => Jvm.RoadKit.acmp (g := (mkF m 2 #[.val (.ref a), .val (.ref bb), .unset] [(.ref bb), (.ref a)])) X0 hx rfl rfl rfl (pc0 := 2) (pc' := 5) (same := true) rfl (hb hby d15_2) rfl (decide_eq_true (congrArg Value.ref ha1)) (by decide) (by decide) (XS.iconst X0.here hx rfl (hb hby d15_5) kk)) ?_
    refine go_end X0 (v := some (.int (nar .boolean (1 : Int32)))) (fun h => by rw [Bd.returns] at h; cases h) Bd.notSynchronized (by decide) (by decide) (Q := (Q_str_eq_0_1 Z a bb d0 gC h0 n0)) ?_ (fun fs hr => retN X0 hx (t := .boolean) Bd.returns (by simp) (hb hby d15_6) hr)
    unfold Q_str_eq_0_1
    try rw [e0]
    refine ⟨?_, N0, rfl⟩
    have hq := hab ha1
    simp only [own_eqv, if_pos hq]; rfl
  · refine go_of (B := (s₁.setTop (mkF m 8 #[.val (.ref a), .val (.ref bb), .unset] [(.ref bb)]))) (fun _ kk => Jvm.RoadKit.acmp (g := (mkF m 2 #[.val (.ref a), .val (.ref bb), .unset] [(.ref bb), (.ref a)])) X0 hx rfl rfl rfl (pc0 := 2) (pc' := 7) (same := false) rfl (hb hby d15_2) rfl (decide_eq_false fun q => ha1 (Value.ref.inj q)) (by decide) (by decide) (XS.aloadN X0.here hx rfl (hb hby d15_7) rfl rfl kk)) ?_
    obtain ⟨T2, X2, e2, st2⟩ := instY X0 hx hZ hown (wd 57 rfl) e0 (Ins.self Eb) (g := (mkF m 8 #[.val (.ref a), .val (.ref bb), .unset] [(.ref bb)])) rfl rfl (hb hby d15_8)
    refine go_of (B := (T2.setTop (mkF m 11 #[.val (.ref a), .val (.ref bb), .unset] [(.int (1 : Int32))]))) (st2) ?_
    refine go_of (B := (T2.setTop (mkF m 15 #[.val (.ref a), .val (.ref bb), .unset] [(.ref bb)]))) (fun _ kk => XS.ifNo X2.here hx rfl (hb hby d15_11) rfl ((if0 _ _).trans (feq (by decide : ¬ ((1 : Int32) = (0 : Int32)))).1) (XS.aloadN X2.here hx rfl (hb hby d15_14) rfl rfl kk)) ?_
    obtain ⟨T3, X3, e3, st3⟩ := castY X2 hx hZ hown (wd 57 rfl) e2 (Ins.self Eb) (g := (mkF m 15 #[.val (.ref a), .val (.ref bb), .unset] [(.ref bb)])) rfl rfl (hb hby d15_15)
    refine go_of (B := (T3.setTop (mkF m 18 #[.val (.ref a), .val (.ref bb), .unset] [(.ref bb)]))) (st3) ?_
    refine go_of (B := (T3.setTop (mkF m 19 #[.val (.ref a), .val (.ref bb), .val (.ref bb)] []))) (fun _ kk => XS.astoreN X3.here hx rfl (hb hby d15_18) rfl rfl rfl kk) ?_
    obtain ⟨T4, X4, e4, st4⟩ := getS2 X3 hx hZ hown (host := "") (Or.inl (wd 52 rfl)) Via.refl e3 (SC.ext O.2) (g := (mkF m 19 #[.val (.ref a), .val (.ref bb), .val (.ref bb)] [])) rfl (hb hby d15_19)
    refine go_of (B := (T4.setTop (mkF m 22 #[.val (.ref a), .val (.ref bb), .val (.ref bb)] [(.int gC)]))) (st4) ?_
    refine go_of (B := (T4.setTop (mkF m 26 #[.val (.ref a), .val (.ref bb), .val (.ref bb)] [(.ref a)]))) (fun _ kk => XS.ifNo X4.here hx rfl (hb hby d15_22) rfl ((if0 _ _).trans (feq hgC).1) (XS.aloadN X4.here hx rfl (hb hby d15_25) rfl rfl kk)) ?_
    obtain ⟨T5, X5, e5, st5⟩ := getF X4 hx hZ hown (host := "") (Or.inl (wd 25 rfl)) Via.refl e4 Fc (g := (mkF m 26 #[.val (.ref a), .val (.ref bb), .val (.ref bb)] [(.ref a)])) rfl rfl (hb hby d15_26)
    refine go_of (B := (T5.setTop (mkF m 29 #[.val (.ref a), .val (.ref bb), .val (.ref bb)] [(.int (0 : Int32))]))) (st5) ?_
    refine go_of (B := (T5.setTop (mkF m 30 #[.val (.ref a), .val (.ref bb), .val (.ref bb)] [(.ref bb), (.int (0 : Int32))]))) (fun _ kk => XS.aloadN X5.here hx rfl (hb hby d15_29) rfl rfl kk) ?_
    obtain ⟨T6, X6, e6, st6⟩ := getF X5 hx hZ hown (host := "") (Or.inl (wd 25 rfl)) Via.refl e5 Fcb (g := (mkF m 30 #[.val (.ref a), .val (.ref bb), .val (.ref bb)] [(.ref bb), (.int (0 : Int32))])) rfl rfl (hb hby d15_30)
    refine go_of (B := (T6.setTop (mkF m 33 #[.val (.ref a), .val (.ref bb), .val (.ref bb)] [(.int (0 : Int32)), (.int (0 : Int32))]))) (st6) ?_
    refine go_of (B := (T6.setTop (mkF m 37 #[.val (.ref a), .val (.ref bb), .val (.ref bb)] [(.ref a)]))) (fun _ kk => XS.icmpNo X6.here hx rfl (hb hby d15_33) rfl (teq (by decide : (0 : Int32) = (0 : Int32))).2 (XS.aloadN X6.here hx rfl (hb hby d15_36) rfl rfl kk)) ?_
    obtain ⟨T7, X7, e7, st7⟩ := getF X6 hx hZ hown (host := "") (Or.inl (wd 24 rfl)) Via.refl e6 Fv (g := (mkF m 37 #[.val (.ref a), .val (.ref bb), .val (.ref bb)] [(.ref a)])) rfl rfl (hb hby d15_37)
    refine go_of (B := (T7.setTop (mkF m 40 #[.val (.ref a), .val (.ref bb), .val (.ref bb)] [(.ref t)]))) (st7) ?_
    refine go_of (B := (T7.setTop (mkF m 41 #[.val (.ref a), .val (.ref bb), .val (.ref bb)] [(.ref bb), (.ref t)]))) (fun _ kk => XS.aloadN X7.here hx rfl (hb hby d15_40) rfl rfl kk) ?_
    obtain ⟨T8, X8, e8, st8⟩ := getF X7 hx hZ hown (host := "") (Or.inl (wd 24 rfl)) Via.refl e7 Fvb (g := (mkF m 41 #[.val (.ref a), .val (.ref bb), .val (.ref bb)] [(.ref bb), (.ref t)])) rfl rfl (hb hby d15_41)
    refine go_of (B := (T8.setTop (mkF m 44 #[.val (.ref a), .val (.ref bb), .val (.ref bb)] [(.ref tt), (.ref t)]))) (st8) ?_
    obtain ⟨_, _, ⟨T9, L9, k9, n9⟩, -, X9, ⟨Lc9, hQ9, l9, y9, z9⟩, st9⟩ := Jvm.LawKit.callS X8 hx (y := MN6) hown (mvT hZ (wd 79 rfl)) (mvT hZ (wd 80 rfl)) (mvT hZ (wd 55 rfl)) (mvT hZ (wd 81 rfl)) (by decide) (backOf (W := 0) (str_lat_0_1 l Z a0 hw [] t tt (own_b8 d0) k kk h0 n0 Z0 Va Vb) hZ (wd 81 rfl) (wd 55 rfl) (by decide) (by decide)) (g := (mkF m 44 #[.val (.ref a), .val (.ref bb), .val (.ref bb)] [(.ref tt), (.ref t)])) rfl (by rw [hml]; rfl) (argsL := [(.ref t), (.ref tt)]) (rest := []) (lenOf pd___B_B_Z rfl) rfl (by show 2 * 0 + _ ≤ _; exact Nat.le_of_eq rfl) (hb hby d15_44) (fun _ _ => ⟨rfl, e8, (by decide : 0 + 0 ≤ _), (by decide : 0 + 0 ≤ _)⟩)
    dsimp only [Pt.U, Pt.locs, Pt.cells, Pt.slots] at X9 l9 y9 z9 st9 hQ9
    subst l9 y9 z9
    obtain ⟨rfl, N9q, e9⟩ := hQ9
    have N9 := Fr.app N0 N9q
    refine go_of (B := (T9.setTop (mkF m 47 #[.val (.ref a), .val (.ref bb), .val (.ref bb)] [(.int (own_eqv [] [(own_b8 d0)]))]))) (st9) ?_
    by_cases hcc10 : (own_eqv [] [(own_b8 d0)]) = (0 : Int32)
    · refine go_of (B := (T9.setTop (mkF m 55 #[.val (.ref a), .val (.ref bb), .val (.ref bb)] [(.int (0 : Int32))]))) (fun _ kk => XS.ifYes X9.here hx rfl (pc0 := 47) (pc' := 54) rfl (hb hby d15_47) rfl ((if0 _ _).trans (teq hcc10).1) (by decide) (by decide) (XS.iconst X9.here hx rfl (hb hby d15_54) kk)) ?_
      refine go_end X9 (v := some (.int (nar .boolean (0 : Int32)))) (fun h => by rw [Bd.returns] at h; cases h) Bd.notSynchronized (by decide) (by decide) (Q := (Q_str_eq_0_1 Z a bb d0 gC h0 n0)) ?_ (fun fs hr => retN X9 hx (t := .boolean) Bd.returns (by simp) (hb hby d15_55) hr)
      unfold Q_str_eq_0_1
      try rw [e9]
      refine ⟨?_, N9, rfl⟩
      have hq := hcc10
      rw [own_eqv0, show ([] = [own_b8 d0]) = (List.map own_b8 [] = List.map own_b8 [d0]) from rfl, own_eqmap [] [d0] hcs hds] at hq
      unfold own_eqv; simp only [hq, not_false_eq_true, if_true, if_false, nar, ↓reduceIte]; first | rfl | simp_all [nar]
    · refine go_of (B := (T9.setTop (mkF m 55 #[.val (.ref a), .val (.ref bb), .val (.ref bb)] [(.int (1 : Int32))]))) (fun _ kk => XS.ifNo X9.here hx rfl (hb hby d15_47) rfl ((if0 _ _).trans (feq hcc10).1) (XS.iconst X9.here hx rfl (hb hby d15_50) (XS.goto X9.here hx rfl (pc0 := 51) (pc' := 55) rfl (hb hby d15_51) (by decide) (by decide) kk))) ?_
      refine go_end X9 (v := some (.int (nar .boolean (1 : Int32)))) (fun h => by rw [Bd.returns] at h; cases h) Bd.notSynchronized (by decide) (by decide) (Q := (Q_str_eq_0_1 Z a bb d0 gC h0 n0)) ?_ (fun fs hr => retN X9 hx (t := .boolean) Bd.returns (by simp) (hb hby d15_55) hr)
      unfold Q_str_eq_0_1
      try rw [e9]
      refine ⟨?_, N9, rfl⟩
      have hq := hcc10
      rw [own_eqv0, show ([] = [own_b8 d0]) = (List.map own_b8 [] = List.map own_b8 [d0]) from rfl, own_eqmap [] [d0] hcs hds] at hq
      unfold own_eqv; simp only [hq, not_false_eq_true, if_true, if_false, nar, ↓reduceIte]; first | rfl | simp_all [nar]
def Q_str_eq_0_2 (Z : State) (a : Addr) (bb : Addr) (d0 : Int32) (d1 : Int32) (gC : Int32) (h0 : Heap) (n0 : Nat) (v : Option Value) (h : Heap) (L : List Loc) : Prop := v = some (.int (own_eqv [] [d0, d1])) ∧ Fr n0 L ∧ h = h0
theorem ef_str_eq_0_2 (m : MethodId) (a : Addr) (bb : Addr)  : entryFrame m #[(.ref a), (.ref bb)] 3 = mkF m 0 #[.val (.ref a), .val (.ref bb), .unset] [] := by first | (simp [entryFrame, mkF, argsToLocals, Value.category]; done) | rfl
theorem str_eq_0_2 (l : Launch) (Z : State) (a0 : Array Value) (hw : TW a0 Z) (ws : List Jvm.Cond) (a : Addr) (bb : Addr) (d0 : Int32) (d1 : Int32) (gC : Int32) (h0 : Heap) (n0 : Nat) (Z0 : n0 ≤ h0.size) (O : Old Z n0 h0) (SC : Sta Z Z.heap "java/lang/String" "COMPACT_STRINGS" "Z" (.int gC)) (hgC : ¬ gC = (0 : Int32)) (S1 : Str Z h0 a 0 []) (S2 : Str Z h0 bb 2 [d0, d1]) (hab : a = bb → ([] : List Int32) = [d0, d1]) :
    own_MF l Z MN5 jdk_42_method_66_code 3 (some .boolean) ws (own_R 1 0 0 14) #[(.ref a), (.ref bb)] h0 (Q_str_eq_0_2 Z a bb d0 d1 gC h0 n0) := by
  have wd := @own_wd _ _ hw
  refine MetFree.of_bodySF (plainFor_of_name pn_java_lang_String) hisR ?_
  intro p e s m args below meth c s₁ Bd hml0 hP hK
  obtain ⟨rfl, hZ, hh⟩ := hP
  have hx := Bd.exec
  have hby := Bd.bytes
  have hml : c.maxLocals = 3 := hml0
  have hown : s.vm.findClass "java/lang/String" = some m.cls := findClass_of_methodNamed Bd.named
  have hnm := (name_of_methodNamed Bd.named Bd.method).1
  have X0 : Stand p l e (own_R 1 0 0 14) s m #[(.ref a), (.ref bb)] below meth c s₁ [] 0 0 := Stand.of_body Bd
  have e0 : s₁.heap = h0 := by rw [← hh, Bd.state]; rfl
  have N0 := Fr.nil n0
  obtain ⟨t, k, Ea, Fc, Fv, Va, hcs⟩ := S1
  obtain ⟨tt, kk, Eb, Fcb, Fvb, Vb, hds⟩ := S2
  refine go_of (A := s₁.setTop (entryFrame m #[(.ref a), (.ref bb)] 3)) (B := s₁.setTop (mkF m 0 #[.val (.ref a), .val (.ref bb), .unset] [])) (fun _ kk' => castTop (ef_str_eq_0_2 m a bb) kk') ?_
  refine go_of (B := (s₁.setTop (mkF m 2 #[.val (.ref a), .val (.ref bb), .unset] [(.ref bb), (.ref a)]))) (fun _ kk => XS.aloadN X0.here hx rfl (hb hby d15_0) rfl rfl (XS.aloadN X0.here hx rfl (hb hby d15_1) rfl rfl kk)) ?_
  by_cases ha1 : a = bb
  · refine go_of (B := (s₁.setTop (mkF m 6 #[.val (.ref a), .val (.ref bb), .unset] [(.int (1 : Int32))]))) (fun _ kk => Jvm.RoadKit.acmp (g := (mkF m 2 #[.val (.ref a), .val (.ref bb), .unset] [(.ref bb), (.ref a)])) X0 hx rfl rfl rfl (pc0 := 2) (pc' := 5) (same := true) rfl (hb hby d15_2) rfl (decide_eq_true (congrArg Value.ref ha1)) (by decide) (by decide) (XS.iconst X0.here hx rfl (hb hby d15_5) kk)) ?_
    refine go_end X0 (v := some (.int (nar .boolean (1 : Int32)))) (fun h => by rw [Bd.returns] at h; cases h) Bd.notSynchronized (by decide) (by decide) (Q := (Q_str_eq_0_2 Z a bb d0 d1 gC h0 n0)) ?_ (fun fs hr => retN X0 hx (t := .boolean) Bd.returns (by simp) (hb hby d15_6) hr)
    unfold Q_str_eq_0_2
    try rw [e0]
    refine ⟨?_, N0, rfl⟩
    have hq := hab ha1
    simp only [own_eqv, if_pos hq]; rfl
  · refine go_of (B := (s₁.setTop (mkF m 8 #[.val (.ref a), .val (.ref bb), .unset] [(.ref bb)]))) (fun _ kk => Jvm.RoadKit.acmp (g := (mkF m 2 #[.val (.ref a), .val (.ref bb), .unset] [(.ref bb), (.ref a)])) X0 hx rfl rfl rfl (pc0 := 2) (pc' := 7) (same := false) rfl (hb hby d15_2) rfl (decide_eq_false fun q => ha1 (Value.ref.inj q)) (by decide) (by decide) (XS.aloadN X0.here hx rfl (hb hby d15_7) rfl rfl kk)) ?_
    obtain ⟨T2, X2, e2, st2⟩ := instY X0 hx hZ hown (wd 57 rfl) e0 (Ins.self Eb) (g := (mkF m 8 #[.val (.ref a), .val (.ref bb), .unset] [(.ref bb)])) rfl rfl (hb hby d15_8)
    refine go_of (B := (T2.setTop (mkF m 11 #[.val (.ref a), .val (.ref bb), .unset] [(.int (1 : Int32))]))) (st2) ?_
    refine go_of (B := (T2.setTop (mkF m 15 #[.val (.ref a), .val (.ref bb), .unset] [(.ref bb)]))) (fun _ kk => XS.ifNo X2.here hx rfl (hb hby d15_11) rfl ((if0 _ _).trans (feq (by decide : ¬ ((1 : Int32) = (0 : Int32)))).1) (XS.aloadN X2.here hx rfl (hb hby d15_14) rfl rfl kk)) ?_
    obtain ⟨T3, X3, e3, st3⟩ := castY X2 hx hZ hown (wd 57 rfl) e2 (Ins.self Eb) (g := (mkF m 15 #[.val (.ref a), .val (.ref bb), .unset] [(.ref bb)])) rfl rfl (hb hby d15_15)
    refine go_of (B := (T3.setTop (mkF m 18 #[.val (.ref a), .val (.ref bb), .unset] [(.ref bb)]))) (st3) ?_
    refine go_of (B := (T3.setTop (mkF m 19 #[.val (.ref a), .val (.ref bb), .val (.ref bb)] []))) (fun _ kk => XS.astoreN X3.here hx rfl (hb hby d15_18) rfl rfl rfl kk) ?_
    obtain ⟨T4, X4, e4, st4⟩ := getS2 X3 hx hZ hown (host := "") (Or.inl (wd 52 rfl)) Via.refl e3 (SC.ext O.2) (g := (mkF m 19 #[.val (.ref a), .val (.ref bb), .val (.ref bb)] [])) rfl (hb hby d15_19)
    refine go_of (B := (T4.setTop (mkF m 22 #[.val (.ref a), .val (.ref bb), .val (.ref bb)] [(.int gC)]))) (st4) ?_
    refine go_of (B := (T4.setTop (mkF m 26 #[.val (.ref a), .val (.ref bb), .val (.ref bb)] [(.ref a)]))) (fun _ kk => XS.ifNo X4.here hx rfl (hb hby d15_22) rfl ((if0 _ _).trans (feq hgC).1) (XS.aloadN X4.here hx rfl (hb hby d15_25) rfl rfl kk)) ?_
    obtain ⟨T5, X5, e5, st5⟩ := getF X4 hx hZ hown (host := "") (Or.inl (wd 25 rfl)) Via.refl e4 Fc (g := (mkF m 26 #[.val (.ref a), .val (.ref bb), .val (.ref bb)] [(.ref a)])) rfl rfl (hb hby d15_26)
    refine go_of (B := (T5.setTop (mkF m 29 #[.val (.ref a), .val (.ref bb), .val (.ref bb)] [(.int (0 : Int32))]))) (st5) ?_
    refine go_of (B := (T5.setTop (mkF m 30 #[.val (.ref a), .val (.ref bb), .val (.ref bb)] [(.ref bb), (.int (0 : Int32))]))) (fun _ kk => XS.aloadN X5.here hx rfl (hb hby d15_29) rfl rfl kk) ?_
    obtain ⟨T6, X6, e6, st6⟩ := getF X5 hx hZ hown (host := "") (Or.inl (wd 25 rfl)) Via.refl e5 Fcb (g := (mkF m 30 #[.val (.ref a), .val (.ref bb), .val (.ref bb)] [(.ref bb), (.int (0 : Int32))])) rfl rfl (hb hby d15_30)
    refine go_of (B := (T6.setTop (mkF m 33 #[.val (.ref a), .val (.ref bb), .val (.ref bb)] [(.int (0 : Int32)), (.int (0 : Int32))]))) (st6) ?_
    refine go_of (B := (T6.setTop (mkF m 37 #[.val (.ref a), .val (.ref bb), .val (.ref bb)] [(.ref a)]))) (fun _ kk => XS.icmpNo X6.here hx rfl (hb hby d15_33) rfl (teq (by decide : (0 : Int32) = (0 : Int32))).2 (XS.aloadN X6.here hx rfl (hb hby d15_36) rfl rfl kk)) ?_
    obtain ⟨T7, X7, e7, st7⟩ := getF X6 hx hZ hown (host := "") (Or.inl (wd 24 rfl)) Via.refl e6 Fv (g := (mkF m 37 #[.val (.ref a), .val (.ref bb), .val (.ref bb)] [(.ref a)])) rfl rfl (hb hby d15_37)
    refine go_of (B := (T7.setTop (mkF m 40 #[.val (.ref a), .val (.ref bb), .val (.ref bb)] [(.ref t)]))) (st7) ?_
    refine go_of (B := (T7.setTop (mkF m 41 #[.val (.ref a), .val (.ref bb), .val (.ref bb)] [(.ref bb), (.ref t)]))) (fun _ kk => XS.aloadN X7.here hx rfl (hb hby d15_40) rfl rfl kk) ?_
    obtain ⟨T8, X8, e8, st8⟩ := getF X7 hx hZ hown (host := "") (Or.inl (wd 24 rfl)) Via.refl e7 Fvb (g := (mkF m 41 #[.val (.ref a), .val (.ref bb), .val (.ref bb)] [(.ref bb), (.ref t)])) rfl rfl (hb hby d15_41)
    refine go_of (B := (T8.setTop (mkF m 44 #[.val (.ref a), .val (.ref bb), .val (.ref bb)] [(.ref tt), (.ref t)]))) (st8) ?_
    obtain ⟨_, _, ⟨T9, L9, k9, n9⟩, -, X9, ⟨Lc9, hQ9, l9, y9, z9⟩, st9⟩ := Jvm.LawKit.callS X8 hx (y := MN6) hown (mvT hZ (wd 79 rfl)) (mvT hZ (wd 80 rfl)) (mvT hZ (wd 55 rfl)) (mvT hZ (wd 81 rfl)) (by decide) (backOf (W := 0) (str_lat_0_2 l Z a0 hw [] t tt (own_b8 d0) (own_b8 d1) k kk h0 n0 Z0 Va Vb) hZ (wd 81 rfl) (wd 55 rfl) (by decide) (by decide)) (g := (mkF m 44 #[.val (.ref a), .val (.ref bb), .val (.ref bb)] [(.ref tt), (.ref t)])) rfl (by rw [hml]; rfl) (argsL := [(.ref t), (.ref tt)]) (rest := []) (lenOf pd___B_B_Z rfl) rfl (by show 2 * 0 + _ ≤ _; exact Nat.le_of_eq rfl) (hb hby d15_44) (fun _ _ => ⟨rfl, e8, (by decide : 0 + 0 ≤ _), (by decide : 0 + 0 ≤ _)⟩)
    dsimp only [Pt.U, Pt.locs, Pt.cells, Pt.slots] at X9 l9 y9 z9 st9 hQ9
    subst l9 y9 z9
    obtain ⟨rfl, N9q, e9⟩ := hQ9
    have N9 := Fr.app N0 N9q
    refine go_of (B := (T9.setTop (mkF m 47 #[.val (.ref a), .val (.ref bb), .val (.ref bb)] [(.int (own_eqv [] [(own_b8 d0), (own_b8 d1)]))]))) (st9) ?_
    by_cases hcc10 : (own_eqv [] [(own_b8 d0), (own_b8 d1)]) = (0 : Int32)
    · refine go_of (B := (T9.setTop (mkF m 55 #[.val (.ref a), .val (.ref bb), .val (.ref bb)] [(.int (0 : Int32))]))) (fun _ kk => XS.ifYes X9.here hx rfl (pc0 := 47) (pc' := 54) rfl (hb hby d15_47) rfl ((if0 _ _).trans (teq hcc10).1) (by decide) (by decide) (XS.iconst X9.here hx rfl (hb hby d15_54) kk)) ?_
      refine go_end X9 (v := some (.int (nar .boolean (0 : Int32)))) (fun h => by rw [Bd.returns] at h; cases h) Bd.notSynchronized (by decide) (by decide) (Q := (Q_str_eq_0_2 Z a bb d0 d1 gC h0 n0)) ?_ (fun fs hr => retN X9 hx (t := .boolean) Bd.returns (by simp) (hb hby d15_55) hr)
      unfold Q_str_eq_0_2
      try rw [e9]
      refine ⟨?_, N9, rfl⟩
      have hq := hcc10
      rw [own_eqv0, show ([] = [own_b8 d0, own_b8 d1]) = (List.map own_b8 [] = List.map own_b8 [d0, d1]) from rfl, own_eqmap [] [d0, d1] hcs hds] at hq
      unfold own_eqv; simp only [hq, not_false_eq_true, if_true, if_false, nar, ↓reduceIte]; first | rfl | simp_all [nar]
    · refine go_of (B := (T9.setTop (mkF m 55 #[.val (.ref a), .val (.ref bb), .val (.ref bb)] [(.int (1 : Int32))]))) (fun _ kk => XS.ifNo X9.here hx rfl (hb hby d15_47) rfl ((if0 _ _).trans (feq hcc10).1) (XS.iconst X9.here hx rfl (hb hby d15_50) (XS.goto X9.here hx rfl (pc0 := 51) (pc' := 55) rfl (hb hby d15_51) (by decide) (by decide) kk))) ?_
      refine go_end X9 (v := some (.int (nar .boolean (1 : Int32)))) (fun h => by rw [Bd.returns] at h; cases h) Bd.notSynchronized (by decide) (by decide) (Q := (Q_str_eq_0_2 Z a bb d0 d1 gC h0 n0)) ?_ (fun fs hr => retN X9 hx (t := .boolean) Bd.returns (by simp) (hb hby d15_55) hr)
      unfold Q_str_eq_0_2
      try rw [e9]
      refine ⟨?_, N9, rfl⟩
      have hq := hcc10
      rw [own_eqv0, show ([] = [own_b8 d0, own_b8 d1]) = (List.map own_b8 [] = List.map own_b8 [d0, d1]) from rfl, own_eqmap [] [d0, d1] hcs hds] at hq
      unfold own_eqv; simp only [hq, not_false_eq_true, if_true, if_false, nar, ↓reduceIte]; first | rfl | simp_all [nar]
def Q_str_eq_1_0 (Z : State) (a : Addr) (bb : Addr) (c0 : Int32) (gC : Int32) (h0 : Heap) (n0 : Nat) (v : Option Value) (h : Heap) (L : List Loc) : Prop := v = some (.int (own_eqv [c0] [])) ∧ Fr n0 L ∧ h = h0
theorem ef_str_eq_1_0 (m : MethodId) (a : Addr) (bb : Addr)  : entryFrame m #[(.ref a), (.ref bb)] 3 = mkF m 0 #[.val (.ref a), .val (.ref bb), .unset] [] := by first | (simp [entryFrame, mkF, argsToLocals, Value.category]; done) | rfl
theorem str_eq_1_0 (l : Launch) (Z : State) (a0 : Array Value) (hw : TW a0 Z) (ws : List Jvm.Cond) (a : Addr) (bb : Addr) (c0 : Int32) (gC : Int32) (h0 : Heap) (n0 : Nat) (Z0 : n0 ≤ h0.size) (O : Old Z n0 h0) (SC : Sta Z Z.heap "java/lang/String" "COMPACT_STRINGS" "Z" (.int gC)) (hgC : ¬ gC = (0 : Int32)) (S1 : Str Z h0 a 1 [c0]) (S2 : Str Z h0 bb 0 []) (hab : a = bb → ([c0] : List Int32) = []) :
    own_MF l Z MN5 jdk_42_method_66_code 3 (some .boolean) ws (own_R 1 0 0 14) #[(.ref a), (.ref bb)] h0 (Q_str_eq_1_0 Z a bb c0 gC h0 n0) := by
  have wd := @own_wd _ _ hw
  refine MetFree.of_bodySF (plainFor_of_name pn_java_lang_String) hisR ?_
  intro p e s m args below meth c s₁ Bd hml0 hP hK
  obtain ⟨rfl, hZ, hh⟩ := hP
  have hx := Bd.exec
  have hby := Bd.bytes
  have hml : c.maxLocals = 3 := hml0
  have hown : s.vm.findClass "java/lang/String" = some m.cls := findClass_of_methodNamed Bd.named
  have hnm := (name_of_methodNamed Bd.named Bd.method).1
  have X0 : Stand p l e (own_R 1 0 0 14) s m #[(.ref a), (.ref bb)] below meth c s₁ [] 0 0 := Stand.of_body Bd
  have e0 : s₁.heap = h0 := by rw [← hh, Bd.state]; rfl
  have N0 := Fr.nil n0
  obtain ⟨t, k, Ea, Fc, Fv, Va, hcs⟩ := S1
  obtain ⟨tt, kk, Eb, Fcb, Fvb, Vb, hds⟩ := S2
  refine go_of (A := s₁.setTop (entryFrame m #[(.ref a), (.ref bb)] 3)) (B := s₁.setTop (mkF m 0 #[.val (.ref a), .val (.ref bb), .unset] [])) (fun _ kk' => castTop (ef_str_eq_1_0 m a bb) kk') ?_
  refine go_of (B := (s₁.setTop (mkF m 2 #[.val (.ref a), .val (.ref bb), .unset] [(.ref bb), (.ref a)]))) (fun _ kk => XS.aloadN X0.here hx rfl (hb hby d15_0) rfl rfl (XS.aloadN X0.here hx rfl (hb hby d15_1) rfl rfl kk)) ?_
  by_cases ha1 : a = bb
  · refine go_of (B := (s₁.setTop (mkF m 6 #[.val (.ref a), .val (.ref bb), .unset] [(.int (1 : Int32))]))) (fun _ kk => Jvm.RoadKit.acmp (g := (mkF m 2 #[.val (.ref a), .val (.ref bb), .unset] [(.ref bb), (.ref a)])) X0 hx rfl rfl rfl (pc0 := 2) (pc' := 5) (same := true) rfl (hb hby d15_2) rfl (decide_eq_true (congrArg Value.ref ha1)) (by decide) (by decide) (XS.iconst X0.here hx rfl (hb hby d15_5) kk)) ?_
    refine go_end X0 (v := some (.int (nar .boolean (1 : Int32)))) (fun h => by rw [Bd.returns] at h; cases h) Bd.notSynchronized (by decide) (by decide) (Q := (Q_str_eq_1_0 Z a bb c0 gC h0 n0)) ?_ (fun fs hr => retN X0 hx (t := .boolean) Bd.returns (by simp) (hb hby d15_6) hr)
    unfold Q_str_eq_1_0
    try rw [e0]
    refine ⟨?_, N0, rfl⟩
    have hq := hab ha1
    simp only [own_eqv, if_pos hq]; rfl
  · refine go_of (B := (s₁.setTop (mkF m 8 #[.val (.ref a), .val (.ref bb), .unset] [(.ref bb)]))) (fun _ kk => Jvm.RoadKit.acmp (g := (mkF m 2 #[.val (.ref a), .val (.ref bb), .unset] [(.ref bb), (.ref a)])) X0 hx rfl rfl rfl (pc0 := 2) (pc' := 7) (same := false) rfl (hb hby d15_2) rfl (decide_eq_false fun q => ha1 (Value.ref.inj q)) (by decide) (by decide) (XS.aloadN X0.here hx rfl (hb hby d15_7) rfl rfl kk)) ?_
    obtain ⟨T2, X2, e2, st2⟩ := instY X0 hx hZ hown (wd 57 rfl) e0 (Ins.self Eb) (g := (mkF m 8 #[.val (.ref a), .val (.ref bb), .unset] [(.ref bb)])) rfl rfl (hb hby d15_8)
    refine go_of (B := (T2.setTop (mkF m 11 #[.val (.ref a), .val (.ref bb), .unset] [(.int (1 : Int32))]))) (st2) ?_
    refine go_of (B := (T2.setTop (mkF m 15 #[.val (.ref a), .val (.ref bb), .unset] [(.ref bb)]))) (fun _ kk => XS.ifNo X2.here hx rfl (hb hby d15_11) rfl ((if0 _ _).trans (feq (by decide : ¬ ((1 : Int32) = (0 : Int32)))).1) (XS.aloadN X2.here hx rfl (hb hby d15_14) rfl rfl kk)) ?_
    obtain ⟨T3, X3, e3, st3⟩ := castY X2 hx hZ hown (wd 57 rfl) e2 (Ins.self Eb) (g := (mkF m 15 #[.val (.ref a), .val (.ref bb), .unset] [(.ref bb)])) rfl rfl (hb hby d15_15)
    refine go_of (B := (T3.setTop (mkF m 18 #[.val (.ref a), .val (.ref bb), .unset] [(.ref bb)]))) (st3) ?_
    refine go_of (B := (T3.setTop (mkF m 19 #[.val (.ref a), .val (.ref bb), .val (.ref bb)] []))) (fun _ kk => XS.astoreN X3.here hx rfl (hb hby d15_18) rfl rfl rfl kk) ?_
    obtain ⟨T4, X4, e4, st4⟩ := getS2 X3 hx hZ hown (host := "") (Or.inl (wd 52 rfl)) Via.refl e3 (SC.ext O.2) (g := (mkF m 19 #[.val (.ref a), .val (.ref bb), .val (.ref bb)] [])) rfl (hb hby d15_19)
    refine go_of (B := (T4.setTop (mkF m 22 #[.val (.ref a), .val (.ref bb), .val (.ref bb)] [(.int gC)]))) (st4) ?_
    refine go_of (B := (T4.setTop (mkF m 26 #[.val (.ref a), .val (.ref bb), .val (.ref bb)] [(.ref a)]))) (fun _ kk => XS.ifNo X4.here hx rfl (hb hby d15_22) rfl ((if0 _ _).trans (feq hgC).1) (XS.aloadN X4.here hx rfl (hb hby d15_25) rfl rfl kk)) ?_
    obtain ⟨T5, X5, e5, st5⟩ := getF X4 hx hZ hown (host := "") (Or.inl (wd 25 rfl)) Via.refl e4 Fc (g := (mkF m 26 #[.val (.ref a), .val (.ref bb), .val (.ref bb)] [(.ref a)])) rfl rfl (hb hby d15_26)
    refine go_of (B := (T5.setTop (mkF m 29 #[.val (.ref a), .val (.ref bb), .val (.ref bb)] [(.int (0 : Int32))]))) (st5) ?_
    refine go_of (B := (T5.setTop (mkF m 30 #[.val (.ref a), .val (.ref bb), .val (.ref bb)] [(.ref bb), (.int (0 : Int32))]))) (fun _ kk => XS.aloadN X5.here hx rfl (hb hby d15_29) rfl rfl kk) ?_
    obtain ⟨T6, X6, e6, st6⟩ := getF X5 hx hZ hown (host := "") (Or.inl (wd 25 rfl)) Via.refl e5 Fcb (g := (mkF m 30 #[.val (.ref a), .val (.ref bb), .val (.ref bb)] [(.ref bb), (.int (0 : Int32))])) rfl rfl (hb hby d15_30)
    refine go_of (B := (T6.setTop (mkF m 33 #[.val (.ref a), .val (.ref bb), .val (.ref bb)] [(.int (0 : Int32)), (.int (0 : Int32))]))) (st6) ?_
    refine go_of (B := (T6.setTop (mkF m 37 #[.val (.ref a), .val (.ref bb), .val (.ref bb)] [(.ref a)]))) (fun _ kk => XS.icmpNo X6.here hx rfl (hb hby d15_33) rfl (teq (by decide : (0 : Int32) = (0 : Int32))).2 (XS.aloadN X6.here hx rfl (hb hby d15_36) rfl rfl kk)) ?_
    obtain ⟨T7, X7, e7, st7⟩ := getF X6 hx hZ hown (host := "") (Or.inl (wd 24 rfl)) Via.refl e6 Fv (g := (mkF m 37 #[.val (.ref a), .val (.ref bb), .val (.ref bb)] [(.ref a)])) rfl rfl (hb hby d15_37)
    refine go_of (B := (T7.setTop (mkF m 40 #[.val (.ref a), .val (.ref bb), .val (.ref bb)] [(.ref t)]))) (st7) ?_
    refine go_of (B := (T7.setTop (mkF m 41 #[.val (.ref a), .val (.ref bb), .val (.ref bb)] [(.ref bb), (.ref t)]))) (fun _ kk => XS.aloadN X7.here hx rfl (hb hby d15_40) rfl rfl kk) ?_
    obtain ⟨T8, X8, e8, st8⟩ := getF X7 hx hZ hown (host := "") (Or.inl (wd 24 rfl)) Via.refl e7 Fvb (g := (mkF m 41 #[.val (.ref a), .val (.ref bb), .val (.ref bb)] [(.ref bb), (.ref t)])) rfl rfl (hb hby d15_41)
    refine go_of (B := (T8.setTop (mkF m 44 #[.val (.ref a), .val (.ref bb), .val (.ref bb)] [(.ref tt), (.ref t)]))) (st8) ?_
    obtain ⟨_, _, ⟨T9, L9, k9, n9⟩, -, X9, ⟨Lc9, hQ9, l9, y9, z9⟩, st9⟩ := Jvm.LawKit.callS X8 hx (y := MN6) hown (mvT hZ (wd 79 rfl)) (mvT hZ (wd 80 rfl)) (mvT hZ (wd 55 rfl)) (mvT hZ (wd 81 rfl)) (by decide) (backOf (W := 0) (str_lat_1_0 l Z a0 hw [] t tt (own_b8 c0) k kk h0 n0 Z0 Va Vb) hZ (wd 81 rfl) (wd 55 rfl) (by decide) (by decide)) (g := (mkF m 44 #[.val (.ref a), .val (.ref bb), .val (.ref bb)] [(.ref tt), (.ref t)])) rfl (by rw [hml]; rfl) (argsL := [(.ref t), (.ref tt)]) (rest := []) (lenOf pd___B_B_Z rfl) rfl (by show 2 * 0 + _ ≤ _; exact Nat.le_of_eq rfl) (hb hby d15_44) (fun _ _ => ⟨rfl, e8, (by decide : 0 + 0 ≤ _), (by decide : 0 + 0 ≤ _)⟩)
    dsimp only [Pt.U, Pt.locs, Pt.cells, Pt.slots] at X9 l9 y9 z9 st9 hQ9
    subst l9 y9 z9
    obtain ⟨rfl, N9q, e9⟩ := hQ9
    have N9 := Fr.app N0 N9q
    refine go_of (B := (T9.setTop (mkF m 47 #[.val (.ref a), .val (.ref bb), .val (.ref bb)] [(.int (own_eqv [(own_b8 c0)] []))]))) (st9) ?_
    by_cases hcc10 : (own_eqv [(own_b8 c0)] []) = (0 : Int32)
    · refine go_of (B := (T9.setTop (mkF m 55 #[.val (.ref a), .val (.ref bb), .val (.ref bb)] [(.int (0 : Int32))]))) (fun _ kk => XS.ifYes X9.here hx rfl (pc0 := 47) (pc' := 54) rfl (hb hby d15_47) rfl ((if0 _ _).trans (teq hcc10).1) (by decide) (by decide) (XS.iconst X9.here hx rfl (hb hby d15_54) kk)) ?_
      refine go_end X9 (v := some (.int (nar .boolean (0 : Int32)))) (fun h => by rw [Bd.returns] at h; cases h) Bd.notSynchronized (by decide) (by decide) (Q := (Q_str_eq_1_0 Z a bb c0 gC h0 n0)) ?_ (fun fs hr => retN X9 hx (t := .boolean) Bd.returns (by simp) (hb hby d15_55) hr)
      unfold Q_str_eq_1_0
      try rw [e9]
      refine ⟨?_, N9, rfl⟩
      have hq := hcc10
      rw [own_eqv0, show ([own_b8 c0] = []) = (List.map own_b8 [c0] = List.map own_b8 []) from rfl, own_eqmap [c0] [] hcs hds] at hq
      unfold own_eqv; simp only [hq, not_false_eq_true, if_true, if_false, nar, ↓reduceIte]; first | rfl | simp_all [nar]
    · refine go_of (B := (T9.setTop (mkF m 55 #[.val (.ref a), .val (.ref bb), .val (.ref bb)] [(.int (1 : Int32))]))) (fun _ kk => XS.ifNo X9.here hx rfl (hb hby d15_47) rfl ((if0 _ _).trans (feq hcc10).1) (XS.iconst X9.here hx rfl (hb hby d15_50) (XS.goto X9.here hx rfl (pc0 := 51) (pc' := 55) rfl (hb hby d15_51) (by decide) (by decide) kk))) ?_
      refine go_end X9 (v := some (.int (nar .boolean (1 : Int32)))) (fun h => by rw [Bd.returns] at h; cases h) Bd.notSynchronized (by decide) (by decide) (Q := (Q_str_eq_1_0 Z a bb c0 gC h0 n0)) ?_ (fun fs hr => retN X9 hx (t := .boolean) Bd.returns (by simp) (hb hby d15_55) hr)
      unfold Q_str_eq_1_0
      try rw [e9]
      refine ⟨?_, N9, rfl⟩
      have hq := hcc10
      rw [own_eqv0, show ([own_b8 c0] = []) = (List.map own_b8 [c0] = List.map own_b8 []) from rfl, own_eqmap [c0] [] hcs hds] at hq
      unfold own_eqv; simp only [hq, not_false_eq_true, if_true, if_false, nar, ↓reduceIte]; first | rfl | simp_all [nar]
def Q_str_eq_1_1 (Z : State) (a : Addr) (bb : Addr) (c0 : Int32) (d0 : Int32) (gC : Int32) (h0 : Heap) (n0 : Nat) (v : Option Value) (h : Heap) (L : List Loc) : Prop := v = some (.int (own_eqv [c0] [d0])) ∧ Fr n0 L ∧ h = h0
theorem ef_str_eq_1_1 (m : MethodId) (a : Addr) (bb : Addr)  : entryFrame m #[(.ref a), (.ref bb)] 3 = mkF m 0 #[.val (.ref a), .val (.ref bb), .unset] [] := by first | (simp [entryFrame, mkF, argsToLocals, Value.category]; done) | rfl
theorem str_eq_1_1 (l : Launch) (Z : State) (a0 : Array Value) (hw : TW a0 Z) (ws : List Jvm.Cond) (a : Addr) (bb : Addr) (c0 : Int32) (d0 : Int32) (gC : Int32) (h0 : Heap) (n0 : Nat) (Z0 : n0 ≤ h0.size) (O : Old Z n0 h0) (SC : Sta Z Z.heap "java/lang/String" "COMPACT_STRINGS" "Z" (.int gC)) (hgC : ¬ gC = (0 : Int32)) (S1 : Str Z h0 a 1 [c0]) (S2 : Str Z h0 bb 1 [d0]) (hab : a = bb → ([c0] : List Int32) = [d0]) :
    own_MF l Z MN5 jdk_42_method_66_code 3 (some .boolean) ws (own_R 1 0 0 14) #[(.ref a), (.ref bb)] h0 (Q_str_eq_1_1 Z a bb c0 d0 gC h0 n0) := by
  have wd := @own_wd _ _ hw
  refine MetFree.of_bodySF (plainFor_of_name pn_java_lang_String) hisR ?_
  intro p e s m args below meth c s₁ Bd hml0 hP hK
  obtain ⟨rfl, hZ, hh⟩ := hP
  have hx := Bd.exec
  have hby := Bd.bytes
  have hml : c.maxLocals = 3 := hml0
  have hown : s.vm.findClass "java/lang/String" = some m.cls := findClass_of_methodNamed Bd.named
  have hnm := (name_of_methodNamed Bd.named Bd.method).1
  have X0 : Stand p l e (own_R 1 0 0 14) s m #[(.ref a), (.ref bb)] below meth c s₁ [] 0 0 := Stand.of_body Bd
  have e0 : s₁.heap = h0 := by rw [← hh, Bd.state]; rfl
  have N0 := Fr.nil n0
  obtain ⟨t, k, Ea, Fc, Fv, Va, hcs⟩ := S1
  obtain ⟨tt, kk, Eb, Fcb, Fvb, Vb, hds⟩ := S2
  refine go_of (A := s₁.setTop (entryFrame m #[(.ref a), (.ref bb)] 3)) (B := s₁.setTop (mkF m 0 #[.val (.ref a), .val (.ref bb), .unset] [])) (fun _ kk' => castTop (ef_str_eq_1_1 m a bb) kk') ?_
  refine go_of (B := (s₁.setTop (mkF m 2 #[.val (.ref a), .val (.ref bb), .unset] [(.ref bb), (.ref a)]))) (fun _ kk => XS.aloadN X0.here hx rfl (hb hby d15_0) rfl rfl (XS.aloadN X0.here hx rfl (hb hby d15_1) rfl rfl kk)) ?_
  by_cases ha1 : a = bb
  · refine go_of (B := (s₁.setTop (mkF m 6 #[.val (.ref a), .val (.ref bb), .unset] [(.int (1 : Int32))]))) (fun _ kk => Jvm.RoadKit.acmp (g := (mkF m 2 #[.val (.ref a), .val (.ref bb), .unset] [(.ref bb), (.ref a)])) X0 hx rfl rfl rfl (pc0 := 2) (pc' := 5) (same := true) rfl (hb hby d15_2) rfl (decide_eq_true (congrArg Value.ref ha1)) (by decide) (by decide) (XS.iconst X0.here hx rfl (hb hby d15_5) kk)) ?_
    refine go_end X0 (v := some (.int (nar .boolean (1 : Int32)))) (fun h => by rw [Bd.returns] at h; cases h) Bd.notSynchronized (by decide) (by decide) (Q := (Q_str_eq_1_1 Z a bb c0 d0 gC h0 n0)) ?_ (fun fs hr => retN X0 hx (t := .boolean) Bd.returns (by simp) (hb hby d15_6) hr)
    unfold Q_str_eq_1_1
    try rw [e0]
    refine ⟨?_, N0, rfl⟩
    have hq := hab ha1
    simp only [own_eqv, if_pos hq]; rfl
  · refine go_of (B := (s₁.setTop (mkF m 8 #[.val (.ref a), .val (.ref bb), .unset] [(.ref bb)]))) (fun _ kk => Jvm.RoadKit.acmp (g := (mkF m 2 #[.val (.ref a), .val (.ref bb), .unset] [(.ref bb), (.ref a)])) X0 hx rfl rfl rfl (pc0 := 2) (pc' := 7) (same := false) rfl (hb hby d15_2) rfl (decide_eq_false fun q => ha1 (Value.ref.inj q)) (by decide) (by decide) (XS.aloadN X0.here hx rfl (hb hby d15_7) rfl rfl kk)) ?_
    obtain ⟨T2, X2, e2, st2⟩ := instY X0 hx hZ hown (wd 57 rfl) e0 (Ins.self Eb) (g := (mkF m 8 #[.val (.ref a), .val (.ref bb), .unset] [(.ref bb)])) rfl rfl (hb hby d15_8)
    refine go_of (B := (T2.setTop (mkF m 11 #[.val (.ref a), .val (.ref bb), .unset] [(.int (1 : Int32))]))) (st2) ?_
    refine go_of (B := (T2.setTop (mkF m 15 #[.val (.ref a), .val (.ref bb), .unset] [(.ref bb)]))) (fun _ kk => XS.ifNo X2.here hx rfl (hb hby d15_11) rfl ((if0 _ _).trans (feq (by decide : ¬ ((1 : Int32) = (0 : Int32)))).1) (XS.aloadN X2.here hx rfl (hb hby d15_14) rfl rfl kk)) ?_
    obtain ⟨T3, X3, e3, st3⟩ := castY X2 hx hZ hown (wd 57 rfl) e2 (Ins.self Eb) (g := (mkF m 15 #[.val (.ref a), .val (.ref bb), .unset] [(.ref bb)])) rfl rfl (hb hby d15_15)
    refine go_of (B := (T3.setTop (mkF m 18 #[.val (.ref a), .val (.ref bb), .unset] [(.ref bb)]))) (st3) ?_
    refine go_of (B := (T3.setTop (mkF m 19 #[.val (.ref a), .val (.ref bb), .val (.ref bb)] []))) (fun _ kk => XS.astoreN X3.here hx rfl (hb hby d15_18) rfl rfl rfl kk) ?_
    obtain ⟨T4, X4, e4, st4⟩ := getS2 X3 hx hZ hown (host := "") (Or.inl (wd 52 rfl)) Via.refl e3 (SC.ext O.2) (g := (mkF m 19 #[.val (.ref a), .val (.ref bb), .val (.ref bb)] [])) rfl (hb hby d15_19)
    refine go_of (B := (T4.setTop (mkF m 22 #[.val (.ref a), .val (.ref bb), .val (.ref bb)] [(.int gC)]))) (st4) ?_
    refine go_of (B := (T4.setTop (mkF m 26 #[.val (.ref a), .val (.ref bb), .val (.ref bb)] [(.ref a)]))) (fun _ kk => XS.ifNo X4.here hx rfl (hb hby d15_22) rfl ((if0 _ _).trans (feq hgC).1) (XS.aloadN X4.here hx rfl (hb hby d15_25) rfl rfl kk)) ?_
    obtain ⟨T5, X5, e5, st5⟩ := getF X4 hx hZ hown (host := "") (Or.inl (wd 25 rfl)) Via.refl e4 Fc (g := (mkF m 26 #[.val (.ref a), .val (.ref bb), .val (.ref bb)] [(.ref a)])) rfl rfl (hb hby d15_26)
    refine go_of (B := (T5.setTop (mkF m 29 #[.val (.ref a), .val (.ref bb), .val (.ref bb)] [(.int (0 : Int32))]))) (st5) ?_
    refine go_of (B := (T5.setTop (mkF m 30 #[.val (.ref a), .val (.ref bb), .val (.ref bb)] [(.ref bb), (.int (0 : Int32))]))) (fun _ kk => XS.aloadN X5.here hx rfl (hb hby d15_29) rfl rfl kk) ?_
    obtain ⟨T6, X6, e6, st6⟩ := getF X5 hx hZ hown (host := "") (Or.inl (wd 25 rfl)) Via.refl e5 Fcb (g := (mkF m 30 #[.val (.ref a), .val (.ref bb), .val (.ref bb)] [(.ref bb), (.int (0 : Int32))])) rfl rfl (hb hby d15_30)
    refine go_of (B := (T6.setTop (mkF m 33 #[.val (.ref a), .val (.ref bb), .val (.ref bb)] [(.int (0 : Int32)), (.int (0 : Int32))]))) (st6) ?_
    refine go_of (B := (T6.setTop (mkF m 37 #[.val (.ref a), .val (.ref bb), .val (.ref bb)] [(.ref a)]))) (fun _ kk => XS.icmpNo X6.here hx rfl (hb hby d15_33) rfl (teq (by decide : (0 : Int32) = (0 : Int32))).2 (XS.aloadN X6.here hx rfl (hb hby d15_36) rfl rfl kk)) ?_
    obtain ⟨T7, X7, e7, st7⟩ := getF X6 hx hZ hown (host := "") (Or.inl (wd 24 rfl)) Via.refl e6 Fv (g := (mkF m 37 #[.val (.ref a), .val (.ref bb), .val (.ref bb)] [(.ref a)])) rfl rfl (hb hby d15_37)
    refine go_of (B := (T7.setTop (mkF m 40 #[.val (.ref a), .val (.ref bb), .val (.ref bb)] [(.ref t)]))) (st7) ?_
    refine go_of (B := (T7.setTop (mkF m 41 #[.val (.ref a), .val (.ref bb), .val (.ref bb)] [(.ref bb), (.ref t)]))) (fun _ kk => XS.aloadN X7.here hx rfl (hb hby d15_40) rfl rfl kk) ?_
    obtain ⟨T8, X8, e8, st8⟩ := getF X7 hx hZ hown (host := "") (Or.inl (wd 24 rfl)) Via.refl e7 Fvb (g := (mkF m 41 #[.val (.ref a), .val (.ref bb), .val (.ref bb)] [(.ref bb), (.ref t)])) rfl rfl (hb hby d15_41)
    refine go_of (B := (T8.setTop (mkF m 44 #[.val (.ref a), .val (.ref bb), .val (.ref bb)] [(.ref tt), (.ref t)]))) (st8) ?_
    obtain ⟨_, _, ⟨T9, L9, k9, n9⟩, -, X9, ⟨Lc9, hQ9, l9, y9, z9⟩, st9⟩ := Jvm.LawKit.callS X8 hx (y := MN6) hown (mvT hZ (wd 79 rfl)) (mvT hZ (wd 80 rfl)) (mvT hZ (wd 55 rfl)) (mvT hZ (wd 81 rfl)) (by decide) (backOf (W := 0) (str_lat_1_1 l Z a0 hw [] t tt (own_b8 c0) (own_b8 d0) k kk h0 n0 Z0 Va Vb) hZ (wd 81 rfl) (wd 55 rfl) (by decide) (by decide)) (g := (mkF m 44 #[.val (.ref a), .val (.ref bb), .val (.ref bb)] [(.ref tt), (.ref t)])) rfl (by rw [hml]; rfl) (argsL := [(.ref t), (.ref tt)]) (rest := []) (lenOf pd___B_B_Z rfl) rfl (by show 2 * 0 + _ ≤ _; exact Nat.le_of_eq rfl) (hb hby d15_44) (fun _ _ => ⟨rfl, e8, (by decide : 0 + 0 ≤ _), (by decide : 0 + 0 ≤ _)⟩)
    dsimp only [Pt.U, Pt.locs, Pt.cells, Pt.slots] at X9 l9 y9 z9 st9 hQ9
    subst l9 y9 z9
    obtain ⟨rfl, N9q, e9⟩ := hQ9
    have N9 := Fr.app N0 N9q
    refine go_of (B := (T9.setTop (mkF m 47 #[.val (.ref a), .val (.ref bb), .val (.ref bb)] [(.int (own_eqv [(own_b8 c0)] [(own_b8 d0)]))]))) (st9) ?_
    by_cases hcc10 : (own_eqv [(own_b8 c0)] [(own_b8 d0)]) = (0 : Int32)
    · refine go_of (B := (T9.setTop (mkF m 55 #[.val (.ref a), .val (.ref bb), .val (.ref bb)] [(.int (0 : Int32))]))) (fun _ kk => XS.ifYes X9.here hx rfl (pc0 := 47) (pc' := 54) rfl (hb hby d15_47) rfl ((if0 _ _).trans (teq hcc10).1) (by decide) (by decide) (XS.iconst X9.here hx rfl (hb hby d15_54) kk)) ?_
      refine go_end X9 (v := some (.int (nar .boolean (0 : Int32)))) (fun h => by rw [Bd.returns] at h; cases h) Bd.notSynchronized (by decide) (by decide) (Q := (Q_str_eq_1_1 Z a bb c0 d0 gC h0 n0)) ?_ (fun fs hr => retN X9 hx (t := .boolean) Bd.returns (by simp) (hb hby d15_55) hr)
      unfold Q_str_eq_1_1
      try rw [e9]
      refine ⟨?_, N9, rfl⟩
      have hq := hcc10
      rw [own_eqv0, show ([own_b8 c0] = [own_b8 d0]) = (List.map own_b8 [c0] = List.map own_b8 [d0]) from rfl, own_eqmap [c0] [d0] hcs hds] at hq
      unfold own_eqv; simp only [hq, not_false_eq_true, if_true, if_false, nar, ↓reduceIte]; first | rfl | simp_all [nar]
    · refine go_of (B := (T9.setTop (mkF m 55 #[.val (.ref a), .val (.ref bb), .val (.ref bb)] [(.int (1 : Int32))]))) (fun _ kk => XS.ifNo X9.here hx rfl (hb hby d15_47) rfl ((if0 _ _).trans (feq hcc10).1) (XS.iconst X9.here hx rfl (hb hby d15_50) (XS.goto X9.here hx rfl (pc0 := 51) (pc' := 55) rfl (hb hby d15_51) (by decide) (by decide) kk))) ?_
      refine go_end X9 (v := some (.int (nar .boolean (1 : Int32)))) (fun h => by rw [Bd.returns] at h; cases h) Bd.notSynchronized (by decide) (by decide) (Q := (Q_str_eq_1_1 Z a bb c0 d0 gC h0 n0)) ?_ (fun fs hr => retN X9 hx (t := .boolean) Bd.returns (by simp) (hb hby d15_55) hr)
      unfold Q_str_eq_1_1
      try rw [e9]
      refine ⟨?_, N9, rfl⟩
      have hq := hcc10
      rw [own_eqv0, show ([own_b8 c0] = [own_b8 d0]) = (List.map own_b8 [c0] = List.map own_b8 [d0]) from rfl, own_eqmap [c0] [d0] hcs hds] at hq
      unfold own_eqv; simp only [hq, not_false_eq_true, if_true, if_false, nar, ↓reduceIte]; first | rfl | simp_all [nar]
def Q_str_eq_1_2 (Z : State) (a : Addr) (bb : Addr) (c0 : Int32) (d0 : Int32) (d1 : Int32) (gC : Int32) (h0 : Heap) (n0 : Nat) (v : Option Value) (h : Heap) (L : List Loc) : Prop := v = some (.int (own_eqv [c0] [d0, d1])) ∧ Fr n0 L ∧ h = h0
theorem ef_str_eq_1_2 (m : MethodId) (a : Addr) (bb : Addr)  : entryFrame m #[(.ref a), (.ref bb)] 3 = mkF m 0 #[.val (.ref a), .val (.ref bb), .unset] [] := by first | (simp [entryFrame, mkF, argsToLocals, Value.category]; done) | rfl
theorem str_eq_1_2 (l : Launch) (Z : State) (a0 : Array Value) (hw : TW a0 Z) (ws : List Jvm.Cond) (a : Addr) (bb : Addr) (c0 : Int32) (d0 : Int32) (d1 : Int32) (gC : Int32) (h0 : Heap) (n0 : Nat) (Z0 : n0 ≤ h0.size) (O : Old Z n0 h0) (SC : Sta Z Z.heap "java/lang/String" "COMPACT_STRINGS" "Z" (.int gC)) (hgC : ¬ gC = (0 : Int32)) (S1 : Str Z h0 a 1 [c0]) (S2 : Str Z h0 bb 2 [d0, d1]) (hab : a = bb → ([c0] : List Int32) = [d0, d1]) :
    own_MF l Z MN5 jdk_42_method_66_code 3 (some .boolean) ws (own_R 1 0 0 14) #[(.ref a), (.ref bb)] h0 (Q_str_eq_1_2 Z a bb c0 d0 d1 gC h0 n0) := by
  have wd := @own_wd _ _ hw
  refine MetFree.of_bodySF (plainFor_of_name pn_java_lang_String) hisR ?_
  intro p e s m args below meth c s₁ Bd hml0 hP hK
  obtain ⟨rfl, hZ, hh⟩ := hP
  have hx := Bd.exec
  have hby := Bd.bytes
  have hml : c.maxLocals = 3 := hml0
  have hown : s.vm.findClass "java/lang/String" = some m.cls := findClass_of_methodNamed Bd.named
  have hnm := (name_of_methodNamed Bd.named Bd.method).1
  have X0 : Stand p l e (own_R 1 0 0 14) s m #[(.ref a), (.ref bb)] below meth c s₁ [] 0 0 := Stand.of_body Bd
  have e0 : s₁.heap = h0 := by rw [← hh, Bd.state]; rfl
  have N0 := Fr.nil n0
  obtain ⟨t, k, Ea, Fc, Fv, Va, hcs⟩ := S1
  obtain ⟨tt, kk, Eb, Fcb, Fvb, Vb, hds⟩ := S2
  refine go_of (A := s₁.setTop (entryFrame m #[(.ref a), (.ref bb)] 3)) (B := s₁.setTop (mkF m 0 #[.val (.ref a), .val (.ref bb), .unset] [])) (fun _ kk' => castTop (ef_str_eq_1_2 m a bb) kk') ?_
  refine go_of (B := (s₁.setTop (mkF m 2 #[.val (.ref a), .val (.ref bb), .unset] [(.ref bb), (.ref a)]))) (fun _ kk => XS.aloadN X0.here hx rfl (hb hby d15_0) rfl rfl (XS.aloadN X0.here hx rfl (hb hby d15_1) rfl rfl kk)) ?_
  by_cases ha1 : a = bb
  · refine go_of (B := (s₁.setTop (mkF m 6 #[.val (.ref a), .val (.ref bb), .unset] [(.int (1 : Int32))]))) (fun _ kk => Jvm.RoadKit.acmp (g := (mkF m 2 #[.val (.ref a), .val (.ref bb), .unset] [(.ref bb), (.ref a)])) X0 hx rfl rfl rfl (pc0 := 2) (pc' := 5) (same := true) rfl (hb hby d15_2) rfl (decide_eq_true (congrArg Value.ref ha1)) (by decide) (by decide) (XS.iconst X0.here hx rfl (hb hby d15_5) kk)) ?_
    refine go_end X0 (v := some (.int (nar .boolean (1 : Int32)))) (fun h => by rw [Bd.returns] at h; cases h) Bd.notSynchronized (by decide) (by decide) (Q := (Q_str_eq_1_2 Z a bb c0 d0 d1 gC h0 n0)) ?_ (fun fs hr => retN X0 hx (t := .boolean) Bd.returns (by simp) (hb hby d15_6) hr)
    unfold Q_str_eq_1_2
    try rw [e0]
    refine ⟨?_, N0, rfl⟩
    have hq := hab ha1
    simp only [own_eqv, if_pos hq]; rfl
  · refine go_of (B := (s₁.setTop (mkF m 8 #[.val (.ref a), .val (.ref bb), .unset] [(.ref bb)]))) (fun _ kk => Jvm.RoadKit.acmp (g := (mkF m 2 #[.val (.ref a), .val (.ref bb), .unset] [(.ref bb), (.ref a)])) X0 hx rfl rfl rfl (pc0 := 2) (pc' := 7) (same := false) rfl (hb hby d15_2) rfl (decide_eq_false fun q => ha1 (Value.ref.inj q)) (by decide) (by decide) (XS.aloadN X0.here hx rfl (hb hby d15_7) rfl rfl kk)) ?_
    obtain ⟨T2, X2, e2, st2⟩ := instY X0 hx hZ hown (wd 57 rfl) e0 (Ins.self Eb) (g := (mkF m 8 #[.val (.ref a), .val (.ref bb), .unset] [(.ref bb)])) rfl rfl (hb hby d15_8)
    refine go_of (B := (T2.setTop (mkF m 11 #[.val (.ref a), .val (.ref bb), .unset] [(.int (1 : Int32))]))) (st2) ?_
    refine go_of (B := (T2.setTop (mkF m 15 #[.val (.ref a), .val (.ref bb), .unset] [(.ref bb)]))) (fun _ kk => XS.ifNo X2.here hx rfl (hb hby d15_11) rfl ((if0 _ _).trans (feq (by decide : ¬ ((1 : Int32) = (0 : Int32)))).1) (XS.aloadN X2.here hx rfl (hb hby d15_14) rfl rfl kk)) ?_
    obtain ⟨T3, X3, e3, st3⟩ := castY X2 hx hZ hown (wd 57 rfl) e2 (Ins.self Eb) (g := (mkF m 15 #[.val (.ref a), .val (.ref bb), .unset] [(.ref bb)])) rfl rfl (hb hby d15_15)
    refine go_of (B := (T3.setTop (mkF m 18 #[.val (.ref a), .val (.ref bb), .unset] [(.ref bb)]))) (st3) ?_
    refine go_of (B := (T3.setTop (mkF m 19 #[.val (.ref a), .val (.ref bb), .val (.ref bb)] []))) (fun _ kk => XS.astoreN X3.here hx rfl (hb hby d15_18) rfl rfl rfl kk) ?_
    obtain ⟨T4, X4, e4, st4⟩ := getS2 X3 hx hZ hown (host := "") (Or.inl (wd 52 rfl)) Via.refl e3 (SC.ext O.2) (g := (mkF m 19 #[.val (.ref a), .val (.ref bb), .val (.ref bb)] [])) rfl (hb hby d15_19)
    refine go_of (B := (T4.setTop (mkF m 22 #[.val (.ref a), .val (.ref bb), .val (.ref bb)] [(.int gC)]))) (st4) ?_
    refine go_of (B := (T4.setTop (mkF m 26 #[.val (.ref a), .val (.ref bb), .val (.ref bb)] [(.ref a)]))) (fun _ kk => XS.ifNo X4.here hx rfl (hb hby d15_22) rfl ((if0 _ _).trans (feq hgC).1) (XS.aloadN X4.here hx rfl (hb hby d15_25) rfl rfl kk)) ?_
    obtain ⟨T5, X5, e5, st5⟩ := getF X4 hx hZ hown (host := "") (Or.inl (wd 25 rfl)) Via.refl e4 Fc (g := (mkF m 26 #[.val (.ref a), .val (.ref bb), .val (.ref bb)] [(.ref a)])) rfl rfl (hb hby d15_26)
    refine go_of (B := (T5.setTop (mkF m 29 #[.val (.ref a), .val (.ref bb), .val (.ref bb)] [(.int (0 : Int32))]))) (st5) ?_
    refine go_of (B := (T5.setTop (mkF m 30 #[.val (.ref a), .val (.ref bb), .val (.ref bb)] [(.ref bb), (.int (0 : Int32))]))) (fun _ kk => XS.aloadN X5.here hx rfl (hb hby d15_29) rfl rfl kk) ?_
    obtain ⟨T6, X6, e6, st6⟩ := getF X5 hx hZ hown (host := "") (Or.inl (wd 25 rfl)) Via.refl e5 Fcb (g := (mkF m 30 #[.val (.ref a), .val (.ref bb), .val (.ref bb)] [(.ref bb), (.int (0 : Int32))])) rfl rfl (hb hby d15_30)
    refine go_of (B := (T6.setTop (mkF m 33 #[.val (.ref a), .val (.ref bb), .val (.ref bb)] [(.int (0 : Int32)), (.int (0 : Int32))]))) (st6) ?_
    refine go_of (B := (T6.setTop (mkF m 37 #[.val (.ref a), .val (.ref bb), .val (.ref bb)] [(.ref a)]))) (fun _ kk => XS.icmpNo X6.here hx rfl (hb hby d15_33) rfl (teq (by decide : (0 : Int32) = (0 : Int32))).2 (XS.aloadN X6.here hx rfl (hb hby d15_36) rfl rfl kk)) ?_
    obtain ⟨T7, X7, e7, st7⟩ := getF X6 hx hZ hown (host := "") (Or.inl (wd 24 rfl)) Via.refl e6 Fv (g := (mkF m 37 #[.val (.ref a), .val (.ref bb), .val (.ref bb)] [(.ref a)])) rfl rfl (hb hby d15_37)
    refine go_of (B := (T7.setTop (mkF m 40 #[.val (.ref a), .val (.ref bb), .val (.ref bb)] [(.ref t)]))) (st7) ?_
    refine go_of (B := (T7.setTop (mkF m 41 #[.val (.ref a), .val (.ref bb), .val (.ref bb)] [(.ref bb), (.ref t)]))) (fun _ kk => XS.aloadN X7.here hx rfl (hb hby d15_40) rfl rfl kk) ?_
    obtain ⟨T8, X8, e8, st8⟩ := getF X7 hx hZ hown (host := "") (Or.inl (wd 24 rfl)) Via.refl e7 Fvb (g := (mkF m 41 #[.val (.ref a), .val (.ref bb), .val (.ref bb)] [(.ref bb), (.ref t)])) rfl rfl (hb hby d15_41)
    refine go_of (B := (T8.setTop (mkF m 44 #[.val (.ref a), .val (.ref bb), .val (.ref bb)] [(.ref tt), (.ref t)]))) (st8) ?_
    obtain ⟨_, _, ⟨T9, L9, k9, n9⟩, -, X9, ⟨Lc9, hQ9, l9, y9, z9⟩, st9⟩ := Jvm.LawKit.callS X8 hx (y := MN6) hown (mvT hZ (wd 79 rfl)) (mvT hZ (wd 80 rfl)) (mvT hZ (wd 55 rfl)) (mvT hZ (wd 81 rfl)) (by decide) (backOf (W := 0) (str_lat_1_2 l Z a0 hw [] t tt (own_b8 c0) (own_b8 d0) (own_b8 d1) k kk h0 n0 Z0 Va Vb) hZ (wd 81 rfl) (wd 55 rfl) (by decide) (by decide)) (g := (mkF m 44 #[.val (.ref a), .val (.ref bb), .val (.ref bb)] [(.ref tt), (.ref t)])) rfl (by rw [hml]; rfl) (argsL := [(.ref t), (.ref tt)]) (rest := []) (lenOf pd___B_B_Z rfl) rfl (by show 2 * 0 + _ ≤ _; exact Nat.le_of_eq rfl) (hb hby d15_44) (fun _ _ => ⟨rfl, e8, (by decide : 0 + 0 ≤ _), (by decide : 0 + 0 ≤ _)⟩)
    dsimp only [Pt.U, Pt.locs, Pt.cells, Pt.slots] at X9 l9 y9 z9 st9 hQ9
    subst l9 y9 z9
    obtain ⟨rfl, N9q, e9⟩ := hQ9
    have N9 := Fr.app N0 N9q
    refine go_of (B := (T9.setTop (mkF m 47 #[.val (.ref a), .val (.ref bb), .val (.ref bb)] [(.int (own_eqv [(own_b8 c0)] [(own_b8 d0), (own_b8 d1)]))]))) (st9) ?_
    by_cases hcc10 : (own_eqv [(own_b8 c0)] [(own_b8 d0), (own_b8 d1)]) = (0 : Int32)
    · refine go_of (B := (T9.setTop (mkF m 55 #[.val (.ref a), .val (.ref bb), .val (.ref bb)] [(.int (0 : Int32))]))) (fun _ kk => XS.ifYes X9.here hx rfl (pc0 := 47) (pc' := 54) rfl (hb hby d15_47) rfl ((if0 _ _).trans (teq hcc10).1) (by decide) (by decide) (XS.iconst X9.here hx rfl (hb hby d15_54) kk)) ?_
      refine go_end X9 (v := some (.int (nar .boolean (0 : Int32)))) (fun h => by rw [Bd.returns] at h; cases h) Bd.notSynchronized (by decide) (by decide) (Q := (Q_str_eq_1_2 Z a bb c0 d0 d1 gC h0 n0)) ?_ (fun fs hr => retN X9 hx (t := .boolean) Bd.returns (by simp) (hb hby d15_55) hr)
      unfold Q_str_eq_1_2
      try rw [e9]
      refine ⟨?_, N9, rfl⟩
      have hq := hcc10
      rw [own_eqv0, show ([own_b8 c0] = [own_b8 d0, own_b8 d1]) = (List.map own_b8 [c0] = List.map own_b8 [d0, d1]) from rfl, own_eqmap [c0] [d0, d1] hcs hds] at hq
      unfold own_eqv; simp only [hq, not_false_eq_true, if_true, if_false, nar, ↓reduceIte]; first | rfl | simp_all [nar]
    · refine go_of (B := (T9.setTop (mkF m 55 #[.val (.ref a), .val (.ref bb), .val (.ref bb)] [(.int (1 : Int32))]))) (fun _ kk => XS.ifNo X9.here hx rfl (hb hby d15_47) rfl ((if0 _ _).trans (feq hcc10).1) (XS.iconst X9.here hx rfl (hb hby d15_50) (XS.goto X9.here hx rfl (pc0 := 51) (pc' := 55) rfl (hb hby d15_51) (by decide) (by decide) kk))) ?_
      refine go_end X9 (v := some (.int (nar .boolean (1 : Int32)))) (fun h => by rw [Bd.returns] at h; cases h) Bd.notSynchronized (by decide) (by decide) (Q := (Q_str_eq_1_2 Z a bb c0 d0 d1 gC h0 n0)) ?_ (fun fs hr => retN X9 hx (t := .boolean) Bd.returns (by simp) (hb hby d15_55) hr)
      unfold Q_str_eq_1_2
      try rw [e9]
      refine ⟨?_, N9, rfl⟩
      have hq := hcc10
      rw [own_eqv0, show ([own_b8 c0] = [own_b8 d0, own_b8 d1]) = (List.map own_b8 [c0] = List.map own_b8 [d0, d1]) from rfl, own_eqmap [c0] [d0, d1] hcs hds] at hq
      unfold own_eqv; simp only [hq, not_false_eq_true, if_true, if_false, nar, ↓reduceIte]; first | rfl | simp_all [nar]
def Q_str_eq_2_0 (Z : State) (a : Addr) (bb : Addr) (c0 : Int32) (c1 : Int32) (gC : Int32) (h0 : Heap) (n0 : Nat) (v : Option Value) (h : Heap) (L : List Loc) : Prop := v = some (.int (own_eqv [c0, c1] [])) ∧ Fr n0 L ∧ h = h0
theorem ef_str_eq_2_0 (m : MethodId) (a : Addr) (bb : Addr)  : entryFrame m #[(.ref a), (.ref bb)] 3 = mkF m 0 #[.val (.ref a), .val (.ref bb), .unset] [] := by first | (simp [entryFrame, mkF, argsToLocals, Value.category]; done) | rfl
theorem str_eq_2_0 (l : Launch) (Z : State) (a0 : Array Value) (hw : TW a0 Z) (ws : List Jvm.Cond) (a : Addr) (bb : Addr) (c0 : Int32) (c1 : Int32) (gC : Int32) (h0 : Heap) (n0 : Nat) (Z0 : n0 ≤ h0.size) (O : Old Z n0 h0) (SC : Sta Z Z.heap "java/lang/String" "COMPACT_STRINGS" "Z" (.int gC)) (hgC : ¬ gC = (0 : Int32)) (S1 : Str Z h0 a 2 [c0, c1]) (S2 : Str Z h0 bb 0 []) (hab : a = bb → ([c0, c1] : List Int32) = []) :
    own_MF l Z MN5 jdk_42_method_66_code 3 (some .boolean) ws (own_R 1 0 0 14) #[(.ref a), (.ref bb)] h0 (Q_str_eq_2_0 Z a bb c0 c1 gC h0 n0) := by
  have wd := @own_wd _ _ hw
  refine MetFree.of_bodySF (plainFor_of_name pn_java_lang_String) hisR ?_
  intro p e s m args below meth c s₁ Bd hml0 hP hK
  obtain ⟨rfl, hZ, hh⟩ := hP
  have hx := Bd.exec
  have hby := Bd.bytes
  have hml : c.maxLocals = 3 := hml0
  have hown : s.vm.findClass "java/lang/String" = some m.cls := findClass_of_methodNamed Bd.named
  have hnm := (name_of_methodNamed Bd.named Bd.method).1
  have X0 : Stand p l e (own_R 1 0 0 14) s m #[(.ref a), (.ref bb)] below meth c s₁ [] 0 0 := Stand.of_body Bd
  have e0 : s₁.heap = h0 := by rw [← hh, Bd.state]; rfl
  have N0 := Fr.nil n0
  obtain ⟨t, k, Ea, Fc, Fv, Va, hcs⟩ := S1
  obtain ⟨tt, kk, Eb, Fcb, Fvb, Vb, hds⟩ := S2
  refine go_of (A := s₁.setTop (entryFrame m #[(.ref a), (.ref bb)] 3)) (B := s₁.setTop (mkF m 0 #[.val (.ref a), .val (.ref bb), .unset] [])) (fun _ kk' => castTop (ef_str_eq_2_0 m a bb) kk') ?_
  refine go_of (B := (s₁.setTop (mkF m 2 #[.val (.ref a), .val (.ref bb), .unset] [(.ref bb), (.ref a)]))) (fun _ kk => XS.aloadN X0.here hx rfl (hb hby d15_0) rfl rfl (XS.aloadN X0.here hx rfl (hb hby d15_1) rfl rfl kk)) ?_
  by_cases ha1 : a = bb
  · refine go_of (B := (s₁.setTop (mkF m 6 #[.val (.ref a), .val (.ref bb), .unset] [(.int (1 : Int32))]))) (fun _ kk => Jvm.RoadKit.acmp (g := (mkF m 2 #[.val (.ref a), .val (.ref bb), .unset] [(.ref bb), (.ref a)])) X0 hx rfl rfl rfl (pc0 := 2) (pc' := 5) (same := true) rfl (hb hby d15_2) rfl (decide_eq_true (congrArg Value.ref ha1)) (by decide) (by decide) (XS.iconst X0.here hx rfl (hb hby d15_5) kk)) ?_
    refine go_end X0 (v := some (.int (nar .boolean (1 : Int32)))) (fun h => by rw [Bd.returns] at h; cases h) Bd.notSynchronized (by decide) (by decide) (Q := (Q_str_eq_2_0 Z a bb c0 c1 gC h0 n0)) ?_ (fun fs hr => retN X0 hx (t := .boolean) Bd.returns (by simp) (hb hby d15_6) hr)
    unfold Q_str_eq_2_0
    try rw [e0]
    refine ⟨?_, N0, rfl⟩
    have hq := hab ha1
    simp only [own_eqv, if_pos hq]; rfl
  · refine go_of (B := (s₁.setTop (mkF m 8 #[.val (.ref a), .val (.ref bb), .unset] [(.ref bb)]))) (fun _ kk => Jvm.RoadKit.acmp (g := (mkF m 2 #[.val (.ref a), .val (.ref bb), .unset] [(.ref bb), (.ref a)])) X0 hx rfl rfl rfl (pc0 := 2) (pc' := 7) (same := false) rfl (hb hby d15_2) rfl (decide_eq_false fun q => ha1 (Value.ref.inj q)) (by decide) (by decide) (XS.aloadN X0.here hx rfl (hb hby d15_7) rfl rfl kk)) ?_
    obtain ⟨T2, X2, e2, st2⟩ := instY X0 hx hZ hown (wd 57 rfl) e0 (Ins.self Eb) (g := (mkF m 8 #[.val (.ref a), .val (.ref bb), .unset] [(.ref bb)])) rfl rfl (hb hby d15_8)
    refine go_of (B := (T2.setTop (mkF m 11 #[.val (.ref a), .val (.ref bb), .unset] [(.int (1 : Int32))]))) (st2) ?_
    refine go_of (B := (T2.setTop (mkF m 15 #[.val (.ref a), .val (.ref bb), .unset] [(.ref bb)]))) (fun _ kk => XS.ifNo X2.here hx rfl (hb hby d15_11) rfl ((if0 _ _).trans (feq (by decide : ¬ ((1 : Int32) = (0 : Int32)))).1) (XS.aloadN X2.here hx rfl (hb hby d15_14) rfl rfl kk)) ?_
    obtain ⟨T3, X3, e3, st3⟩ := castY X2 hx hZ hown (wd 57 rfl) e2 (Ins.self Eb) (g := (mkF m 15 #[.val (.ref a), .val (.ref bb), .unset] [(.ref bb)])) rfl rfl (hb hby d15_15)
    refine go_of (B := (T3.setTop (mkF m 18 #[.val (.ref a), .val (.ref bb), .unset] [(.ref bb)]))) (st3) ?_
    refine go_of (B := (T3.setTop (mkF m 19 #[.val (.ref a), .val (.ref bb), .val (.ref bb)] []))) (fun _ kk => XS.astoreN X3.here hx rfl (hb hby d15_18) rfl rfl rfl kk) ?_
    obtain ⟨T4, X4, e4, st4⟩ := getS2 X3 hx hZ hown (host := "") (Or.inl (wd 52 rfl)) Via.refl e3 (SC.ext O.2) (g := (mkF m 19 #[.val (.ref a), .val (.ref bb), .val (.ref bb)] [])) rfl (hb hby d15_19)
    refine go_of (B := (T4.setTop (mkF m 22 #[.val (.ref a), .val (.ref bb), .val (.ref bb)] [(.int gC)]))) (st4) ?_
    refine go_of (B := (T4.setTop (mkF m 26 #[.val (.ref a), .val (.ref bb), .val (.ref bb)] [(.ref a)]))) (fun _ kk => XS.ifNo X4.here hx rfl (hb hby d15_22) rfl ((if0 _ _).trans (feq hgC).1) (XS.aloadN X4.here hx rfl (hb hby d15_25) rfl rfl kk)) ?_
    obtain ⟨T5, X5, e5, st5⟩ := getF X4 hx hZ hown (host := "") (Or.inl (wd 25 rfl)) Via.refl e4 Fc (g := (mkF m 26 #[.val (.ref a), .val (.ref bb), .val (.ref bb)] [(.ref a)])) rfl rfl (hb hby d15_26)
    refine go_of (B := (T5.setTop (mkF m 29 #[.val (.ref a), .val (.ref bb), .val (.ref bb)] [(.int (0 : Int32))]))) (st5) ?_
    refine go_of (B := (T5.setTop (mkF m 30 #[.val (.ref a), .val (.ref bb), .val (.ref bb)] [(.ref bb), (.int (0 : Int32))]))) (fun _ kk => XS.aloadN X5.here hx rfl (hb hby d15_29) rfl rfl kk) ?_
    obtain ⟨T6, X6, e6, st6⟩ := getF X5 hx hZ hown (host := "") (Or.inl (wd 25 rfl)) Via.refl e5 Fcb (g := (mkF m 30 #[.val (.ref a), .val (.ref bb), .val (.ref bb)] [(.ref bb), (.int (0 : Int32))])) rfl rfl (hb hby d15_30)
    refine go_of (B := (T6.setTop (mkF m 33 #[.val (.ref a), .val (.ref bb), .val (.ref bb)] [(.int (0 : Int32)), (.int (0 : Int32))]))) (st6) ?_
    refine go_of (B := (T6.setTop (mkF m 37 #[.val (.ref a), .val (.ref bb), .val (.ref bb)] [(.ref a)]))) (fun _ kk => XS.icmpNo X6.here hx rfl (hb hby d15_33) rfl (teq (by decide : (0 : Int32) = (0 : Int32))).2 (XS.aloadN X6.here hx rfl (hb hby d15_36) rfl rfl kk)) ?_
    obtain ⟨T7, X7, e7, st7⟩ := getF X6 hx hZ hown (host := "") (Or.inl (wd 24 rfl)) Via.refl e6 Fv (g := (mkF m 37 #[.val (.ref a), .val (.ref bb), .val (.ref bb)] [(.ref a)])) rfl rfl (hb hby d15_37)
    refine go_of (B := (T7.setTop (mkF m 40 #[.val (.ref a), .val (.ref bb), .val (.ref bb)] [(.ref t)]))) (st7) ?_
    refine go_of (B := (T7.setTop (mkF m 41 #[.val (.ref a), .val (.ref bb), .val (.ref bb)] [(.ref bb), (.ref t)]))) (fun _ kk => XS.aloadN X7.here hx rfl (hb hby d15_40) rfl rfl kk) ?_
    obtain ⟨T8, X8, e8, st8⟩ := getF X7 hx hZ hown (host := "") (Or.inl (wd 24 rfl)) Via.refl e7 Fvb (g := (mkF m 41 #[.val (.ref a), .val (.ref bb), .val (.ref bb)] [(.ref bb), (.ref t)])) rfl rfl (hb hby d15_41)
    refine go_of (B := (T8.setTop (mkF m 44 #[.val (.ref a), .val (.ref bb), .val (.ref bb)] [(.ref tt), (.ref t)]))) (st8) ?_
    obtain ⟨_, _, ⟨T9, L9, k9, n9⟩, -, X9, ⟨Lc9, hQ9, l9, y9, z9⟩, st9⟩ := Jvm.LawKit.callS X8 hx (y := MN6) hown (mvT hZ (wd 79 rfl)) (mvT hZ (wd 80 rfl)) (mvT hZ (wd 55 rfl)) (mvT hZ (wd 81 rfl)) (by decide) (backOf (W := 0) (str_lat_2_0 l Z a0 hw [] t tt (own_b8 c0) (own_b8 c1) k kk h0 n0 Z0 Va Vb) hZ (wd 81 rfl) (wd 55 rfl) (by decide) (by decide)) (g := (mkF m 44 #[.val (.ref a), .val (.ref bb), .val (.ref bb)] [(.ref tt), (.ref t)])) rfl (by rw [hml]; rfl) (argsL := [(.ref t), (.ref tt)]) (rest := []) (lenOf pd___B_B_Z rfl) rfl (by show 2 * 0 + _ ≤ _; exact Nat.le_of_eq rfl) (hb hby d15_44) (fun _ _ => ⟨rfl, e8, (by decide : 0 + 0 ≤ _), (by decide : 0 + 0 ≤ _)⟩)
    dsimp only [Pt.U, Pt.locs, Pt.cells, Pt.slots] at X9 l9 y9 z9 st9 hQ9
    subst l9 y9 z9
    obtain ⟨rfl, N9q, e9⟩ := hQ9
    have N9 := Fr.app N0 N9q
    refine go_of (B := (T9.setTop (mkF m 47 #[.val (.ref a), .val (.ref bb), .val (.ref bb)] [(.int (own_eqv [(own_b8 c0), (own_b8 c1)] []))]))) (st9) ?_
    by_cases hcc10 : (own_eqv [(own_b8 c0), (own_b8 c1)] []) = (0 : Int32)
    · refine go_of (B := (T9.setTop (mkF m 55 #[.val (.ref a), .val (.ref bb), .val (.ref bb)] [(.int (0 : Int32))]))) (fun _ kk => XS.ifYes X9.here hx rfl (pc0 := 47) (pc' := 54) rfl (hb hby d15_47) rfl ((if0 _ _).trans (teq hcc10).1) (by decide) (by decide) (XS.iconst X9.here hx rfl (hb hby d15_54) kk)) ?_
      refine go_end X9 (v := some (.int (nar .boolean (0 : Int32)))) (fun h => by rw [Bd.returns] at h; cases h) Bd.notSynchronized (by decide) (by decide) (Q := (Q_str_eq_2_0 Z a bb c0 c1 gC h0 n0)) ?_ (fun fs hr => retN X9 hx (t := .boolean) Bd.returns (by simp) (hb hby d15_55) hr)
      unfold Q_str_eq_2_0
      try rw [e9]
      refine ⟨?_, N9, rfl⟩
      have hq := hcc10
      rw [own_eqv0, show ([own_b8 c0, own_b8 c1] = []) = (List.map own_b8 [c0, c1] = List.map own_b8 []) from rfl, own_eqmap [c0, c1] [] hcs hds] at hq
      unfold own_eqv; simp only [hq, not_false_eq_true, if_true, if_false, nar, ↓reduceIte]; first | rfl | simp_all [nar]
    · refine go_of (B := (T9.setTop (mkF m 55 #[.val (.ref a), .val (.ref bb), .val (.ref bb)] [(.int (1 : Int32))]))) (fun _ kk => XS.ifNo X9.here hx rfl (hb hby d15_47) rfl ((if0 _ _).trans (feq hcc10).1) (XS.iconst X9.here hx rfl (hb hby d15_50) (XS.goto X9.here hx rfl (pc0 := 51) (pc' := 55) rfl (hb hby d15_51) (by decide) (by decide) kk))) ?_
      refine go_end X9 (v := some (.int (nar .boolean (1 : Int32)))) (fun h => by rw [Bd.returns] at h; cases h) Bd.notSynchronized (by decide) (by decide) (Q := (Q_str_eq_2_0 Z a bb c0 c1 gC h0 n0)) ?_ (fun fs hr => retN X9 hx (t := .boolean) Bd.returns (by simp) (hb hby d15_55) hr)
      unfold Q_str_eq_2_0
      try rw [e9]
      refine ⟨?_, N9, rfl⟩
      have hq := hcc10
      rw [own_eqv0, show ([own_b8 c0, own_b8 c1] = []) = (List.map own_b8 [c0, c1] = List.map own_b8 []) from rfl, own_eqmap [c0, c1] [] hcs hds] at hq
      unfold own_eqv; simp only [hq, not_false_eq_true, if_true, if_false, nar, ↓reduceIte]; first | rfl | simp_all [nar]
def Q_str_eq_2_1 (Z : State) (a : Addr) (bb : Addr) (c0 : Int32) (c1 : Int32) (d0 : Int32) (gC : Int32) (h0 : Heap) (n0 : Nat) (v : Option Value) (h : Heap) (L : List Loc) : Prop := v = some (.int (own_eqv [c0, c1] [d0])) ∧ Fr n0 L ∧ h = h0
theorem ef_str_eq_2_1 (m : MethodId) (a : Addr) (bb : Addr)  : entryFrame m #[(.ref a), (.ref bb)] 3 = mkF m 0 #[.val (.ref a), .val (.ref bb), .unset] [] := by first | (simp [entryFrame, mkF, argsToLocals, Value.category]; done) | rfl
theorem str_eq_2_1 (l : Launch) (Z : State) (a0 : Array Value) (hw : TW a0 Z) (ws : List Jvm.Cond) (a : Addr) (bb : Addr) (c0 : Int32) (c1 : Int32) (d0 : Int32) (gC : Int32) (h0 : Heap) (n0 : Nat) (Z0 : n0 ≤ h0.size) (O : Old Z n0 h0) (SC : Sta Z Z.heap "java/lang/String" "COMPACT_STRINGS" "Z" (.int gC)) (hgC : ¬ gC = (0 : Int32)) (S1 : Str Z h0 a 2 [c0, c1]) (S2 : Str Z h0 bb 1 [d0]) (hab : a = bb → ([c0, c1] : List Int32) = [d0]) :
    own_MF l Z MN5 jdk_42_method_66_code 3 (some .boolean) ws (own_R 1 0 0 14) #[(.ref a), (.ref bb)] h0 (Q_str_eq_2_1 Z a bb c0 c1 d0 gC h0 n0) := by
  have wd := @own_wd _ _ hw
  refine MetFree.of_bodySF (plainFor_of_name pn_java_lang_String) hisR ?_
  intro p e s m args below meth c s₁ Bd hml0 hP hK
  obtain ⟨rfl, hZ, hh⟩ := hP
  have hx := Bd.exec
  have hby := Bd.bytes
  have hml : c.maxLocals = 3 := hml0
  have hown : s.vm.findClass "java/lang/String" = some m.cls := findClass_of_methodNamed Bd.named
  have hnm := (name_of_methodNamed Bd.named Bd.method).1
  have X0 : Stand p l e (own_R 1 0 0 14) s m #[(.ref a), (.ref bb)] below meth c s₁ [] 0 0 := Stand.of_body Bd
  have e0 : s₁.heap = h0 := by rw [← hh, Bd.state]; rfl
  have N0 := Fr.nil n0
  obtain ⟨t, k, Ea, Fc, Fv, Va, hcs⟩ := S1
  obtain ⟨tt, kk, Eb, Fcb, Fvb, Vb, hds⟩ := S2
  refine go_of (A := s₁.setTop (entryFrame m #[(.ref a), (.ref bb)] 3)) (B := s₁.setTop (mkF m 0 #[.val (.ref a), .val (.ref bb), .unset] [])) (fun _ kk' => castTop (ef_str_eq_2_1 m a bb) kk') ?_
  refine go_of (B := (s₁.setTop (mkF m 2 #[.val (.ref a), .val (.ref bb), .unset] [(.ref bb), (.ref a)]))) (fun _ kk => XS.aloadN X0.here hx rfl (hb hby d15_0) rfl rfl (XS.aloadN X0.here hx rfl (hb hby d15_1) rfl rfl kk)) ?_
  by_cases ha1 : a = bb
  · refine go_of (B := (s₁.setTop (mkF m 6 #[.val (.ref a), .val (.ref bb), .unset] [(.int (1 : Int32))]))) (fun _ kk => Jvm.RoadKit.acmp (g := (mkF m 2 #[.val (.ref a), .val (.ref bb), .unset] [(.ref bb), (.ref a)])) X0 hx rfl rfl rfl (pc0 := 2) (pc' := 5) (same := true) rfl (hb hby d15_2) rfl (decide_eq_true (congrArg Value.ref ha1)) (by decide) (by decide) (XS.iconst X0.here hx rfl (hb hby d15_5) kk)) ?_
    refine go_end X0 (v := some (.int (nar .boolean (1 : Int32)))) (fun h => by rw [Bd.returns] at h; cases h) Bd.notSynchronized (by decide) (by decide) (Q := (Q_str_eq_2_1 Z a bb c0 c1 d0 gC h0 n0)) ?_ (fun fs hr => retN X0 hx (t := .boolean) Bd.returns (by simp) (hb hby d15_6) hr)
    unfold Q_str_eq_2_1
    try rw [e0]
    refine ⟨?_, N0, rfl⟩
    have hq := hab ha1
    simp only [own_eqv, if_pos hq]; rfl
  · refine go_of (B := (s₁.setTop (mkF m 8 #[.val (.ref a), .val (.ref bb), .unset] [(.ref bb)]))) (fun _ kk => Jvm.RoadKit.acmp (g := (mkF m 2 #[.val (.ref a), .val (.ref bb), .unset] [(.ref bb), (.ref a)])) X0 hx rfl rfl rfl (pc0 := 2) (pc' := 7) (same := false) rfl (hb hby d15_2) rfl (decide_eq_false fun q => ha1 (Value.ref.inj q)) (by decide) (by decide) (XS.aloadN X0.here hx rfl (hb hby d15_7) rfl rfl kk)) ?_
    obtain ⟨T2, X2, e2, st2⟩ := instY X0 hx hZ hown (wd 57 rfl) e0 (Ins.self Eb) (g := (mkF m 8 #[.val (.ref a), .val (.ref bb), .unset] [(.ref bb)])) rfl rfl (hb hby d15_8)
    refine go_of (B := (T2.setTop (mkF m 11 #[.val (.ref a), .val (.ref bb), .unset] [(.int (1 : Int32))]))) (st2) ?_
    refine go_of (B := (T2.setTop (mkF m 15 #[.val (.ref a), .val (.ref bb), .unset] [(.ref bb)]))) (fun _ kk => XS.ifNo X2.here hx rfl (hb hby d15_11) rfl ((if0 _ _).trans (feq (by decide : ¬ ((1 : Int32) = (0 : Int32)))).1) (XS.aloadN X2.here hx rfl (hb hby d15_14) rfl rfl kk)) ?_
    obtain ⟨T3, X3, e3, st3⟩ := castY X2 hx hZ hown (wd 57 rfl) e2 (Ins.self Eb) (g := (mkF m 15 #[.val (.ref a), .val (.ref bb), .unset] [(.ref bb)])) rfl rfl (hb hby d15_15)
    refine go_of (B := (T3.setTop (mkF m 18 #[.val (.ref a), .val (.ref bb), .unset] [(.ref bb)]))) (st3) ?_
    refine go_of (B := (T3.setTop (mkF m 19 #[.val (.ref a), .val (.ref bb), .val (.ref bb)] []))) (fun _ kk => XS.astoreN X3.here hx rfl (hb hby d15_18) rfl rfl rfl kk) ?_
    obtain ⟨T4, X4, e4, st4⟩ := getS2 X3 hx hZ hown (host := "") (Or.inl (wd 52 rfl)) Via.refl e3 (SC.ext O.2) (g := (mkF m 19 #[.val (.ref a), .val (.ref bb), .val (.ref bb)] [])) rfl (hb hby d15_19)
    refine go_of (B := (T4.setTop (mkF m 22 #[.val (.ref a), .val (.ref bb), .val (.ref bb)] [(.int gC)]))) (st4) ?_
    refine go_of (B := (T4.setTop (mkF m 26 #[.val (.ref a), .val (.ref bb), .val (.ref bb)] [(.ref a)]))) (fun _ kk => XS.ifNo X4.here hx rfl (hb hby d15_22) rfl ((if0 _ _).trans (feq hgC).1) (XS.aloadN X4.here hx rfl (hb hby d15_25) rfl rfl kk)) ?_
    obtain ⟨T5, X5, e5, st5⟩ := getF X4 hx hZ hown (host := "") (Or.inl (wd 25 rfl)) Via.refl e4 Fc (g := (mkF m 26 #[.val (.ref a), .val (.ref bb), .val (.ref bb)] [(.ref a)])) rfl rfl (hb hby d15_26)
    refine go_of (B := (T5.setTop (mkF m 29 #[.val (.ref a), .val (.ref bb), .val (.ref bb)] [(.int (0 : Int32))]))) (st5) ?_
    refine go_of (B := (T5.setTop (mkF m 30 #[.val (.ref a), .val (.ref bb), .val (.ref bb)] [(.ref bb), (.int (0 : Int32))]))) (fun _ kk => XS.aloadN X5.here hx rfl (hb hby d15_29) rfl rfl kk) ?_
    obtain ⟨T6, X6, e6, st6⟩ := getF X5 hx hZ hown (host := "") (Or.inl (wd 25 rfl)) Via.refl e5 Fcb (g := (mkF m 30 #[.val (.ref a), .val (.ref bb), .val (.ref bb)] [(.ref bb), (.int (0 : Int32))])) rfl rfl (hb hby d15_30)
    refine go_of (B := (T6.setTop (mkF m 33 #[.val (.ref a), .val (.ref bb), .val (.ref bb)] [(.int (0 : Int32)), (.int (0 : Int32))]))) (st6) ?_
    refine go_of (B := (T6.setTop (mkF m 37 #[.val (.ref a), .val (.ref bb), .val (.ref bb)] [(.ref a)]))) (fun _ kk => XS.icmpNo X6.here hx rfl (hb hby d15_33) rfl (teq (by decide : (0 : Int32) = (0 : Int32))).2 (XS.aloadN X6.here hx rfl (hb hby d15_36) rfl rfl kk)) ?_
    obtain ⟨T7, X7, e7, st7⟩ := getF X6 hx hZ hown (host := "") (Or.inl (wd 24 rfl)) Via.refl e6 Fv (g := (mkF m 37 #[.val (.ref a), .val (.ref bb), .val (.ref bb)] [(.ref a)])) rfl rfl (hb hby d15_37)
    refine go_of (B := (T7.setTop (mkF m 40 #[.val (.ref a), .val (.ref bb), .val (.ref bb)] [(.ref t)]))) (st7) ?_
    refine go_of (B := (T7.setTop (mkF m 41 #[.val (.ref a), .val (.ref bb), .val (.ref bb)] [(.ref bb), (.ref t)]))) (fun _ kk => XS.aloadN X7.here hx rfl (hb hby d15_40) rfl rfl kk) ?_
    obtain ⟨T8, X8, e8, st8⟩ := getF X7 hx hZ hown (host := "") (Or.inl (wd 24 rfl)) Via.refl e7 Fvb (g := (mkF m 41 #[.val (.ref a), .val (.ref bb), .val (.ref bb)] [(.ref bb), (.ref t)])) rfl rfl (hb hby d15_41)
    refine go_of (B := (T8.setTop (mkF m 44 #[.val (.ref a), .val (.ref bb), .val (.ref bb)] [(.ref tt), (.ref t)]))) (st8) ?_
    obtain ⟨_, _, ⟨T9, L9, k9, n9⟩, -, X9, ⟨Lc9, hQ9, l9, y9, z9⟩, st9⟩ := Jvm.LawKit.callS X8 hx (y := MN6) hown (mvT hZ (wd 79 rfl)) (mvT hZ (wd 80 rfl)) (mvT hZ (wd 55 rfl)) (mvT hZ (wd 81 rfl)) (by decide) (backOf (W := 0) (str_lat_2_1 l Z a0 hw [] t tt (own_b8 c0) (own_b8 c1) (own_b8 d0) k kk h0 n0 Z0 Va Vb) hZ (wd 81 rfl) (wd 55 rfl) (by decide) (by decide)) (g := (mkF m 44 #[.val (.ref a), .val (.ref bb), .val (.ref bb)] [(.ref tt), (.ref t)])) rfl (by rw [hml]; rfl) (argsL := [(.ref t), (.ref tt)]) (rest := []) (lenOf pd___B_B_Z rfl) rfl (by show 2 * 0 + _ ≤ _; exact Nat.le_of_eq rfl) (hb hby d15_44) (fun _ _ => ⟨rfl, e8, (by decide : 0 + 0 ≤ _), (by decide : 0 + 0 ≤ _)⟩)
    dsimp only [Pt.U, Pt.locs, Pt.cells, Pt.slots] at X9 l9 y9 z9 st9 hQ9
    subst l9 y9 z9
    obtain ⟨rfl, N9q, e9⟩ := hQ9
    have N9 := Fr.app N0 N9q
    refine go_of (B := (T9.setTop (mkF m 47 #[.val (.ref a), .val (.ref bb), .val (.ref bb)] [(.int (own_eqv [(own_b8 c0), (own_b8 c1)] [(own_b8 d0)]))]))) (st9) ?_
    by_cases hcc10 : (own_eqv [(own_b8 c0), (own_b8 c1)] [(own_b8 d0)]) = (0 : Int32)
    · refine go_of (B := (T9.setTop (mkF m 55 #[.val (.ref a), .val (.ref bb), .val (.ref bb)] [(.int (0 : Int32))]))) (fun _ kk => XS.ifYes X9.here hx rfl (pc0 := 47) (pc' := 54) rfl (hb hby d15_47) rfl ((if0 _ _).trans (teq hcc10).1) (by decide) (by decide) (XS.iconst X9.here hx rfl (hb hby d15_54) kk)) ?_
      refine go_end X9 (v := some (.int (nar .boolean (0 : Int32)))) (fun h => by rw [Bd.returns] at h; cases h) Bd.notSynchronized (by decide) (by decide) (Q := (Q_str_eq_2_1 Z a bb c0 c1 d0 gC h0 n0)) ?_ (fun fs hr => retN X9 hx (t := .boolean) Bd.returns (by simp) (hb hby d15_55) hr)
      unfold Q_str_eq_2_1
      try rw [e9]
      refine ⟨?_, N9, rfl⟩
      have hq := hcc10
      rw [own_eqv0, show ([own_b8 c0, own_b8 c1] = [own_b8 d0]) = (List.map own_b8 [c0, c1] = List.map own_b8 [d0]) from rfl, own_eqmap [c0, c1] [d0] hcs hds] at hq
      unfold own_eqv; simp only [hq, not_false_eq_true, if_true, if_false, nar, ↓reduceIte]; first | rfl | simp_all [nar]
    · refine go_of (B := (T9.setTop (mkF m 55 #[.val (.ref a), .val (.ref bb), .val (.ref bb)] [(.int (1 : Int32))]))) (fun _ kk => XS.ifNo X9.here hx rfl (hb hby d15_47) rfl ((if0 _ _).trans (feq hcc10).1) (XS.iconst X9.here hx rfl (hb hby d15_50) (XS.goto X9.here hx rfl (pc0 := 51) (pc' := 55) rfl (hb hby d15_51) (by decide) (by decide) kk))) ?_
      refine go_end X9 (v := some (.int (nar .boolean (1 : Int32)))) (fun h => by rw [Bd.returns] at h; cases h) Bd.notSynchronized (by decide) (by decide) (Q := (Q_str_eq_2_1 Z a bb c0 c1 d0 gC h0 n0)) ?_ (fun fs hr => retN X9 hx (t := .boolean) Bd.returns (by simp) (hb hby d15_55) hr)
      unfold Q_str_eq_2_1
      try rw [e9]
      refine ⟨?_, N9, rfl⟩
      have hq := hcc10
      rw [own_eqv0, show ([own_b8 c0, own_b8 c1] = [own_b8 d0]) = (List.map own_b8 [c0, c1] = List.map own_b8 [d0]) from rfl, own_eqmap [c0, c1] [d0] hcs hds] at hq
      unfold own_eqv; simp only [hq, not_false_eq_true, if_true, if_false, nar, ↓reduceIte]; first | rfl | simp_all [nar]
def Q_str_eq_2_2 (Z : State) (a : Addr) (bb : Addr) (c0 : Int32) (c1 : Int32) (d0 : Int32) (d1 : Int32) (gC : Int32) (h0 : Heap) (n0 : Nat) (v : Option Value) (h : Heap) (L : List Loc) : Prop := v = some (.int (own_eqv [c0, c1] [d0, d1])) ∧ Fr n0 L ∧ h = h0
theorem ef_str_eq_2_2 (m : MethodId) (a : Addr) (bb : Addr)  : entryFrame m #[(.ref a), (.ref bb)] 3 = mkF m 0 #[.val (.ref a), .val (.ref bb), .unset] [] := by first | (simp [entryFrame, mkF, argsToLocals, Value.category]; done) | rfl
theorem str_eq_2_2 (l : Launch) (Z : State) (a0 : Array Value) (hw : TW a0 Z) (ws : List Jvm.Cond) (a : Addr) (bb : Addr) (c0 : Int32) (c1 : Int32) (d0 : Int32) (d1 : Int32) (gC : Int32) (h0 : Heap) (n0 : Nat) (Z0 : n0 ≤ h0.size) (O : Old Z n0 h0) (SC : Sta Z Z.heap "java/lang/String" "COMPACT_STRINGS" "Z" (.int gC)) (hgC : ¬ gC = (0 : Int32)) (S1 : Str Z h0 a 2 [c0, c1]) (S2 : Str Z h0 bb 2 [d0, d1]) (hab : a = bb → ([c0, c1] : List Int32) = [d0, d1]) :
    own_MF l Z MN5 jdk_42_method_66_code 3 (some .boolean) ws (own_R 1 0 0 14) #[(.ref a), (.ref bb)] h0 (Q_str_eq_2_2 Z a bb c0 c1 d0 d1 gC h0 n0) := by
  have wd := @own_wd _ _ hw
  refine MetFree.of_bodySF (plainFor_of_name pn_java_lang_String) hisR ?_
  intro p e s m args below meth c s₁ Bd hml0 hP hK
  obtain ⟨rfl, hZ, hh⟩ := hP
  have hx := Bd.exec
  have hby := Bd.bytes
  have hml : c.maxLocals = 3 := hml0
  have hown : s.vm.findClass "java/lang/String" = some m.cls := findClass_of_methodNamed Bd.named
  have hnm := (name_of_methodNamed Bd.named Bd.method).1
  have X0 : Stand p l e (own_R 1 0 0 14) s m #[(.ref a), (.ref bb)] below meth c s₁ [] 0 0 := Stand.of_body Bd
  have e0 : s₁.heap = h0 := by rw [← hh, Bd.state]; rfl
  have N0 := Fr.nil n0
  obtain ⟨t, k, Ea, Fc, Fv, Va, hcs⟩ := S1
  obtain ⟨tt, kk, Eb, Fcb, Fvb, Vb, hds⟩ := S2
  refine go_of (A := s₁.setTop (entryFrame m #[(.ref a), (.ref bb)] 3)) (B := s₁.setTop (mkF m 0 #[.val (.ref a), .val (.ref bb), .unset] [])) (fun _ kk' => castTop (ef_str_eq_2_2 m a bb) kk') ?_
  refine go_of (B := (s₁.setTop (mkF m 2 #[.val (.ref a), .val (.ref bb), .unset] [(.ref bb), (.ref a)]))) (fun _ kk => XS.aloadN X0.here hx rfl (hb hby d15_0) rfl rfl (XS.aloadN X0.here hx rfl (hb hby d15_1) rfl rfl kk)) ?_
  by_cases ha1 : a = bb
  · refine go_of (B := (s₁.setTop (mkF m 6 #[.val (.ref a), .val (.ref bb), .unset] [(.int (1 : Int32))]))) (fun _ kk => Jvm.RoadKit.acmp (g := (mkF m 2 #[.val (.ref a), .val (.ref bb), .unset] [(.ref bb), (.ref a)])) X0 hx rfl rfl rfl (pc0 := 2) (pc' := 5) (same := true) rfl (hb hby d15_2) rfl (decide_eq_true (congrArg Value.ref ha1)) (by decide) (by decide) (XS.iconst X0.here hx rfl (hb hby d15_5) kk)) ?_
    refine go_end X0 (v := some (.int (nar .boolean (1 : Int32)))) (fun h => by rw [Bd.returns] at h; cases h) Bd.notSynchronized (by decide) (by decide) (Q := (Q_str_eq_2_2 Z a bb c0 c1 d0 d1 gC h0 n0)) ?_ (fun fs hr => retN X0 hx (t := .boolean) Bd.returns (by simp) (hb hby d15_6) hr)
    unfold Q_str_eq_2_2
    try rw [e0]
    refine ⟨?_, N0, rfl⟩
    have hq := hab ha1
    simp only [own_eqv, if_pos hq]; rfl
  · refine go_of (B := (s₁.setTop (mkF m 8 #[.val (.ref a), .val (.ref bb), .unset] [(.ref bb)]))) (fun _ kk => Jvm.RoadKit.acmp (g := (mkF m 2 #[.val (.ref a), .val (.ref bb), .unset] [(.ref bb), (.ref a)])) X0 hx rfl rfl rfl (pc0 := 2) (pc' := 7) (same := false) rfl (hb hby d15_2) rfl (decide_eq_false fun q => ha1 (Value.ref.inj q)) (by decide) (by decide) (XS.aloadN X0.here hx rfl (hb hby d15_7) rfl rfl kk)) ?_
    obtain ⟨T2, X2, e2, st2⟩ := instY X0 hx hZ hown (wd 57 rfl) e0 (Ins.self Eb) (g := (mkF m 8 #[.val (.ref a), .val (.ref bb), .unset] [(.ref bb)])) rfl rfl (hb hby d15_8)
    refine go_of (B := (T2.setTop (mkF m 11 #[.val (.ref a), .val (.ref bb), .unset] [(.int (1 : Int32))]))) (st2) ?_
    refine go_of (B := (T2.setTop (mkF m 15 #[.val (.ref a), .val (.ref bb), .unset] [(.ref bb)]))) (fun _ kk => XS.ifNo X2.here hx rfl (hb hby d15_11) rfl ((if0 _ _).trans (feq (by decide : ¬ ((1 : Int32) = (0 : Int32)))).1) (XS.aloadN X2.here hx rfl (hb hby d15_14) rfl rfl kk)) ?_
    obtain ⟨T3, X3, e3, st3⟩ := castY X2 hx hZ hown (wd 57 rfl) e2 (Ins.self Eb) (g := (mkF m 15 #[.val (.ref a), .val (.ref bb), .unset] [(.ref bb)])) rfl rfl (hb hby d15_15)
    refine go_of (B := (T3.setTop (mkF m 18 #[.val (.ref a), .val (.ref bb), .unset] [(.ref bb)]))) (st3) ?_
    refine go_of (B := (T3.setTop (mkF m 19 #[.val (.ref a), .val (.ref bb), .val (.ref bb)] []))) (fun _ kk => XS.astoreN X3.here hx rfl (hb hby d15_18) rfl rfl rfl kk) ?_
    obtain ⟨T4, X4, e4, st4⟩ := getS2 X3 hx hZ hown (host := "") (Or.inl (wd 52 rfl)) Via.refl e3 (SC.ext O.2) (g := (mkF m 19 #[.val (.ref a), .val (.ref bb), .val (.ref bb)] [])) rfl (hb hby d15_19)
    refine go_of (B := (T4.setTop (mkF m 22 #[.val (.ref a), .val (.ref bb), .val (.ref bb)] [(.int gC)]))) (st4) ?_
    refine go_of (B := (T4.setTop (mkF m 26 #[.val (.ref a), .val (.ref bb), .val (.ref bb)] [(.ref a)]))) (fun _ kk => XS.ifNo X4.here hx rfl (hb hby d15_22) rfl ((if0 _ _).trans (feq hgC).1) (XS.aloadN X4.here hx rfl (hb hby d15_25) rfl rfl kk)) ?_
    obtain ⟨T5, X5, e5, st5⟩ := getF X4 hx hZ hown (host := "") (Or.inl (wd 25 rfl)) Via.refl e4 Fc (g := (mkF m 26 #[.val (.ref a), .val (.ref bb), .val (.ref bb)] [(.ref a)])) rfl rfl (hb hby d15_26)
    refine go_of (B := (T5.setTop (mkF m 29 #[.val (.ref a), .val (.ref bb), .val (.ref bb)] [(.int (0 : Int32))]))) (st5) ?_
    refine go_of (B := (T5.setTop (mkF m 30 #[.val (.ref a), .val (.ref bb), .val (.ref bb)] [(.ref bb), (.int (0 : Int32))]))) (fun _ kk => XS.aloadN X5.here hx rfl (hb hby d15_29) rfl rfl kk) ?_
    obtain ⟨T6, X6, e6, st6⟩ := getF X5 hx hZ hown (host := "") (Or.inl (wd 25 rfl)) Via.refl e5 Fcb (g := (mkF m 30 #[.val (.ref a), .val (.ref bb), .val (.ref bb)] [(.ref bb), (.int (0 : Int32))])) rfl rfl (hb hby d15_30)
    refine go_of (B := (T6.setTop (mkF m 33 #[.val (.ref a), .val (.ref bb), .val (.ref bb)] [(.int (0 : Int32)), (.int (0 : Int32))]))) (st6) ?_
    refine go_of (B := (T6.setTop (mkF m 37 #[.val (.ref a), .val (.ref bb), .val (.ref bb)] [(.ref a)]))) (fun _ kk => XS.icmpNo X6.here hx rfl (hb hby d15_33) rfl (teq (by decide : (0 : Int32) = (0 : Int32))).2 (XS.aloadN X6.here hx rfl (hb hby d15_36) rfl rfl kk)) ?_
    obtain ⟨T7, X7, e7, st7⟩ := getF X6 hx hZ hown (host := "") (Or.inl (wd 24 rfl)) Via.refl e6 Fv (g := (mkF m 37 #[.val (.ref a), .val (.ref bb), .val (.ref bb)] [(.ref a)])) rfl rfl (hb hby d15_37)
    refine go_of (B := (T7.setTop (mkF m 40 #[.val (.ref a), .val (.ref bb), .val (.ref bb)] [(.ref t)]))) (st7) ?_
    refine go_of (B := (T7.setTop (mkF m 41 #[.val (.ref a), .val (.ref bb), .val (.ref bb)] [(.ref bb), (.ref t)]))) (fun _ kk => XS.aloadN X7.here hx rfl (hb hby d15_40) rfl rfl kk) ?_
    obtain ⟨T8, X8, e8, st8⟩ := getF X7 hx hZ hown (host := "") (Or.inl (wd 24 rfl)) Via.refl e7 Fvb (g := (mkF m 41 #[.val (.ref a), .val (.ref bb), .val (.ref bb)] [(.ref bb), (.ref t)])) rfl rfl (hb hby d15_41)
    refine go_of (B := (T8.setTop (mkF m 44 #[.val (.ref a), .val (.ref bb), .val (.ref bb)] [(.ref tt), (.ref t)]))) (st8) ?_
    obtain ⟨_, _, ⟨T9, L9, k9, n9⟩, -, X9, ⟨Lc9, hQ9, l9, y9, z9⟩, st9⟩ := Jvm.LawKit.callS X8 hx (y := MN6) hown (mvT hZ (wd 79 rfl)) (mvT hZ (wd 80 rfl)) (mvT hZ (wd 55 rfl)) (mvT hZ (wd 81 rfl)) (by decide) (backOf (W := 0) (str_lat_2_2 l Z a0 hw [] t tt (own_b8 c0) (own_b8 c1) (own_b8 d0) (own_b8 d1) k kk h0 n0 Z0 Va Vb) hZ (wd 81 rfl) (wd 55 rfl) (by decide) (by decide)) (g := (mkF m 44 #[.val (.ref a), .val (.ref bb), .val (.ref bb)] [(.ref tt), (.ref t)])) rfl (by rw [hml]; rfl) (argsL := [(.ref t), (.ref tt)]) (rest := []) (lenOf pd___B_B_Z rfl) rfl (by show 2 * 0 + _ ≤ _; exact Nat.le_of_eq rfl) (hb hby d15_44) (fun _ _ => ⟨rfl, e8, (by decide : 0 + 0 ≤ _), (by decide : 0 + 0 ≤ _)⟩)
    dsimp only [Pt.U, Pt.locs, Pt.cells, Pt.slots] at X9 l9 y9 z9 st9 hQ9
    subst l9 y9 z9
    obtain ⟨rfl, N9q, e9⟩ := hQ9
    have N9 := Fr.app N0 N9q
    refine go_of (B := (T9.setTop (mkF m 47 #[.val (.ref a), .val (.ref bb), .val (.ref bb)] [(.int (own_eqv [(own_b8 c0), (own_b8 c1)] [(own_b8 d0), (own_b8 d1)]))]))) (st9) ?_
    by_cases hcc10 : (own_eqv [(own_b8 c0), (own_b8 c1)] [(own_b8 d0), (own_b8 d1)]) = (0 : Int32)
    · refine go_of (B := (T9.setTop (mkF m 55 #[.val (.ref a), .val (.ref bb), .val (.ref bb)] [(.int (0 : Int32))]))) (fun _ kk => XS.ifYes X9.here hx rfl (pc0 := 47) (pc' := 54) rfl (hb hby d15_47) rfl ((if0 _ _).trans (teq hcc10).1) (by decide) (by decide) (XS.iconst X9.here hx rfl (hb hby d15_54) kk)) ?_
      refine go_end X9 (v := some (.int (nar .boolean (0 : Int32)))) (fun h => by rw [Bd.returns] at h; cases h) Bd.notSynchronized (by decide) (by decide) (Q := (Q_str_eq_2_2 Z a bb c0 c1 d0 d1 gC h0 n0)) ?_ (fun fs hr => retN X9 hx (t := .boolean) Bd.returns (by simp) (hb hby d15_55) hr)
      unfold Q_str_eq_2_2
      try rw [e9]
      refine ⟨?_, N9, rfl⟩
      have hq := hcc10
      rw [own_eqv0, show ([own_b8 c0, own_b8 c1] = [own_b8 d0, own_b8 d1]) = (List.map own_b8 [c0, c1] = List.map own_b8 [d0, d1]) from rfl, own_eqmap [c0, c1] [d0, d1] hcs hds] at hq
      unfold own_eqv; simp only [hq, not_false_eq_true, if_true, if_false, nar, ↓reduceIte]; first | rfl | simp_all [nar]
    · refine go_of (B := (T9.setTop (mkF m 55 #[.val (.ref a), .val (.ref bb), .val (.ref bb)] [(.int (1 : Int32))]))) (fun _ kk => XS.ifNo X9.here hx rfl (hb hby d15_47) rfl ((if0 _ _).trans (feq hcc10).1) (XS.iconst X9.here hx rfl (hb hby d15_50) (XS.goto X9.here hx rfl (pc0 := 51) (pc' := 55) rfl (hb hby d15_51) (by decide) (by decide) kk))) ?_
      refine go_end X9 (v := some (.int (nar .boolean (1 : Int32)))) (fun h => by rw [Bd.returns] at h; cases h) Bd.notSynchronized (by decide) (by decide) (Q := (Q_str_eq_2_2 Z a bb c0 c1 d0 d1 gC h0 n0)) ?_ (fun fs hr => retN X9 hx (t := .boolean) Bd.returns (by simp) (hb hby d15_55) hr)
      unfold Q_str_eq_2_2
      try rw [e9]
      refine ⟨?_, N9, rfl⟩
      have hq := hcc10
      rw [own_eqv0, show ([own_b8 c0, own_b8 c1] = [own_b8 d0, own_b8 d1]) = (List.map own_b8 [c0, c1] = List.map own_b8 [d0, d1]) from rfl, own_eqmap [c0, c1] [d0, d1] hcs hds] at hq
      unfold own_eqv; simp only [hq, not_false_eq_true, if_true, if_false, nar, ↓reduceIte]; first | rfl | simp_all [nar]
def Q_str_eq (Z : State) (a bb : Addr) (cs ds : List Int32) (gC : Int32) (h0 : Heap) (n0 : Nat) (v : Option Value) (h : Heap) (L : List Loc) : Prop := v = some (.int (own_eqv cs ds)) ∧ Fr n0 L ∧ h = h0
theorem str_eq (l : Launch) (Z : State) (a0 : Array Value) (hw : ∀ d ∈ tables_1, d.before a0 Z = true) (ws : List Jvm.Cond) (a bb : Addr) (cs ds : List Int32) (gC : Int32) (h0 : Heap) (n0 : Nat) (Z0 : n0 ≤ h0.size) (O : Old Z n0 h0) (SC : Sta Z Z.heap "java/lang/String" "COMPACT_STRINGS" "Z" (.int gC)) (hgC : ¬ gC = (0 : Int32)) (S1 : StrL Z h0 a cs) (S2 : StrL Z h0 bb ds) (hab : a = bb → cs = ds) :
    MetFree l MN5 (head1 (Jvm.Cond.code MN5 jdk_42_method_66_code 3 (some .boolean) :: ws) (own_R 1 0 0 14)) (fun aa' U1' => aa' = #[(.ref a), (.ref bb)] ∧ Z.Warmed39 U1'.vm ∧ U1'.heap = h0) (fun _ _ _ _ _ => True) (fun _ U1' oo' U2' => ∃ vv' LL', oo' = .returned vv' ∧ (Q_str_eq Z a bb cs ds gC h0 n0) vv' U2'.heap LL' ∧ FrameEnd U1' oo' U2' LL' (own_R 1 0 0 14).cells (own_R 1 0 0 14).slots) := by
  match cs, ds, S1, S2, hab with
  | [], [], S1, S2, hab => exact str_eq_0_0 l Z a0 hw ws a bb  gC h0 n0 Z0 O SC hgC S1 S2 hab
  | [], [d0], S1, S2, hab => exact str_eq_0_1 l Z a0 hw ws a bb d0 gC h0 n0 Z0 O SC hgC S1 S2 hab
  | [], [d0, d1], S1, S2, hab => exact str_eq_0_2 l Z a0 hw ws a bb d0 d1 gC h0 n0 Z0 O SC hgC S1 S2 hab
  | [], _ :: _ :: _ :: _, _, S2, _ => exact S2.elim
  | [c0], [], S1, S2, hab => exact str_eq_1_0 l Z a0 hw ws a bb c0 gC h0 n0 Z0 O SC hgC S1 S2 hab
  | [c0], [d0], S1, S2, hab => exact str_eq_1_1 l Z a0 hw ws a bb c0 d0 gC h0 n0 Z0 O SC hgC S1 S2 hab
  | [c0], [d0, d1], S1, S2, hab => exact str_eq_1_2 l Z a0 hw ws a bb c0 d0 d1 gC h0 n0 Z0 O SC hgC S1 S2 hab
  | [c0], _ :: _ :: _ :: _, _, S2, _ => exact S2.elim
  | [c0, c1], [], S1, S2, hab => exact str_eq_2_0 l Z a0 hw ws a bb c0 c1 gC h0 n0 Z0 O SC hgC S1 S2 hab
  | [c0, c1], [d0], S1, S2, hab => exact str_eq_2_1 l Z a0 hw ws a bb c0 c1 d0 gC h0 n0 Z0 O SC hgC S1 S2 hab
  | [c0, c1], [d0, d1], S1, S2, hab => exact str_eq_2_2 l Z a0 hw ws a bb c0 c1 d0 d1 gC h0 n0 Z0 O SC hgC S1 S2 hab
  | [c0, c1], _ :: _ :: _ :: _, _, S2, _ => exact S2.elim
  | _ :: _ :: _ :: _, _, S1, _, _ => exact S1.elim

abbrev own_ch (va : Int32) : Int32 := (va &&& (255 : Int32)).toUInt32.toUInt16.toUInt32.toInt32
abbrev own_ch8 (va : Int32) : Int32 := own_ch ((va.toUInt32 >>> ((8 : Int32) &&& 31).toUInt32).toInt32)
theorem own_chv (va : Int32) : own_ch va = va &&& (255 : Int32) := by
  have h : (va &&& (255 : Int32)).toInt = va.toInt % 256 := c_mask va 255 8 (by decide) (by decide)
  have h5 := c_i2c (va &&& (255 : Int32))
  apply Int32.toInt_inj.mp
  show (va &&& (255 : Int32)).toUInt32.toUInt16.toUInt32.toInt32.toInt = _
  omega
theorem own_chr (va : Int32) : ¬ own_ch va < 0 ∧ ¬ (255 : Int32) < own_ch va := by
  have h : (va &&& (255 : Int32)).toInt = va.toInt % 256 := c_mask va 255 8 (by decide) (by decide)
  rw [own_chv, Int32.lt_iff_toInt_lt, Int32.lt_iff_toInt_lt]
  have e1 : (255 : Int32).toInt = 255 := rfl; have e0 : (0 : Int32).toInt = 0 := rfl
  omega
theorem own_3 (z : Int32) : (z &&& (3 : Int32)) % (3 : Int32) = 0 ∨ (z &&& (3 : Int32)) % (3 : Int32) = 1 ∨ (z &&& (3 : Int32)) % (3 : Int32) = 2 := by
  have h : (z &&& (3 : Int32)).toInt = z.toInt % 4 := c_mask z 3 2 (by decide) (by decide)
  have h4 : (z &&& (3 : Int32)) = 0 ∨ (z &&& (3 : Int32)) = 1 ∨ (z &&& (3 : Int32)) = 2 ∨ (z &&& (3 : Int32)) = 3 := by
    simp only [← Int32.toInt_inj, h]
    have e0 : (0 : Int32).toInt = 0 := rfl; have e1 : (1 : Int32).toInt = 1 := rfl; have e2 : (2 : Int32).toInt = 2 := rfl; have e3 : (3 : Int32).toInt = 3 := rfl
    omega
  rcases h4 with q | q | q | q <;> rw [q] <;> decide
theorem own_10 : ¬ (1 : Int32) = 0 := by decide
def own_mk (nn c d : Int32) : List Int32 := if nn = (0 : Int32) then [] else if nn = (1 : Int32) then [c] else [c, d]
theorem own_mkeq {n n' : Int32} (c d c' d' : Int32) (h : n = 0 ∨ n = 1 ∨ n = 2) (h' : n' = 0 ∨ n' = 1 ∨ n' = 2) : own_mk n c d = own_mk n' c' d' ↔ (n = n' ∧ (n < 1 ∨ c = c') ∧ (n < 2 ∨ d = d')) := by
  have a1 : ((1 : Int32) < 1) = False := by decide
  have a2 : ((2 : Int32) < 1) = False := by decide
  have a3 : ((0 : Int32) < 1) = True := by decide
  have a4 : ((0 : Int32) < 2) = True := by decide
  have a5 : ((1 : Int32) < 2) = True := by decide
  have a6 : ((2 : Int32) < 2) = False := by decide
  have b1 : ((1 : Int32) = 0) = False := by decide
  have b2 : ((2 : Int32) = 0) = False := by decide
  have b3 : ((2 : Int32) = 1) = False := by decide
  have b4 : ((0 : Int32) = 1) = False := by decide
  have b5 : ((0 : Int32) = 2) = False := by decide
  have b6 : ((1 : Int32) = 2) = False := by decide
  rcases h with rfl | rfl | rfl <;> rcases h' with rfl | rfl | rfl <;> simp only [own_mk, a1, a2, a3, a4, a5, a6, b1, b2, b3, b4, b5, b6, ↓reduceIte, List.cons.injEq, and_true, true_and, false_and, and_false, reduceCtorEq, true_or, false_or]
theorem own_l12 {n : Int32} (h : n < 1) : n < 2 := by
  rw [Int32.lt_iff_toInt_lt] at h ⊢
  have e1 : (1 : Int32).toInt = 1 := rfl; have e2 : (2 : Int32).toInt = 2 := rfl
  omega
def own_keq (u w : Int32) (cs ds : List Int32) : Int32 := if u = w then own_eqv cs ds else 0
theorem own_eqv1 {cs ds : List Int32} (h : ¬ own_eqv cs ds = 0) : own_eqv cs ds = 1 := by
  rw [own_eqv0] at h; unfold own_eqv; rw [if_pos (Classical.not_not.mp h)]
theorem own_te1 {te : Int32} {cs ds : List Int32} (h : te = own_eqv cs ds) (h0 : ¬ te = 0) : te = 1 := by rw [h] at h0 ⊢; exact own_eqv1 h0
theorem own_keqc (u w : Int32) (cs ds : List Int32) : own_keq w u ds cs = own_keq u w cs ds := by unfold own_keq own_eqv; simp only [eq_comm (a := w), eq_comm (a := ds)]
theorem own_keqs (u : Int32) (cs : List Int32) : ¬ own_keq u u cs cs = 0 := by simp [own_keq, own_eqv]
theorem d9_0 : decode jdk_43_method_3_code 0 = .ok (.iload_n 0, 1) := by decide +kernel
theorem d9_1 : decode jdk_43_method_3_code 1 = .ok (.sipush 255, 3) := by decide +kernel
theorem d9_4 : decode jdk_43_method_3_code 4 = .ok (.if_icmp .gt 7, 3) := by decide +kernel
theorem d9_7 : decode jdk_43_method_3_code 7 = .ok (.iconst 1, 1) := by decide +kernel
theorem d9_8 : decode jdk_43_method_3_code 8 = .ok (.goto 4, 3) := by decide +kernel
theorem d9_12 : decode jdk_43_method_3_code 12 = .ok (.ireturn, 1) := by decide +kernel
def Q_rm9 (Z : State) (c0 : Int32) (h0 : Heap) (n0 : Nat) (v : Option Value) (h : Heap) (L : List Loc) : Prop := v = some (.int 1) ∧ Fr n0 L ∧ h = h0
theorem ef_rm9 (m : MethodId) (c0 : Int32)  : entryFrame m #[(.int c0)] 1 = mkF m 0 #[.val (.int c0)] [] := by first | (simp [entryFrame, mkF, argsToLocals, Value.category]; done) | rfl
theorem rm9 (l : Launch) (Z : State) (a0 : Array Value) (hw : TW a0 Z) (ws : List Jvm.Cond) (c0 : Int32) (h0 : Heap) (n0 : Nat) (Z0 : n0 ≤ h0.size) (hc0 : ¬ c0 < 0 ∧ ¬ (255 : Int32) < c0) :
    own_MF l Z (⟨"java/lang/StringLatin1", "canEncode", "(C)Z"⟩ : MethodName) jdk_43_method_3_code 1 (some .boolean) ws (own_R 0 0 0 0) #[(.int c0)] h0 (Q_rm9 Z c0 h0 n0) := by
  have wd := @own_wd _ _ hw
  refine MetFree.of_bodySF (plainFor_of_name pn_java_lang_StringLatin1) hisR ?_
  intro p e s m args below meth c s₁ Bd hml0 hP hK
  obtain ⟨rfl, hZ, hh⟩ := hP
  have hx := Bd.exec
  have hby := Bd.bytes
  have hml : c.maxLocals = 1 := hml0
  have hown : s.vm.findClass "java/lang/StringLatin1" = some m.cls := findClass_of_methodNamed Bd.named
  have hnm := (name_of_methodNamed Bd.named Bd.method).1
  have X0 : Stand p l e (own_R 0 0 0 0) s m #[(.int c0)] below meth c s₁ [] 0 0 := Stand.of_body Bd
  have e0 : s₁.heap = h0 := by rw [← hh, Bd.state]; rfl
  have N0 := Fr.nil n0
  refine go_of (A := s₁.setTop (entryFrame m #[(.int c0)] 1)) (B := s₁.setTop (mkF m 0 #[.val (.int c0)] [])) (fun _ kk' => castTop (ef_rm9 m c0) kk') ?_
  refine go_of (B := (s₁.setTop (mkF m 12 #[.val (.int c0)] [(.int (1 : Int32))]))) (fun _ kk => XS.iloadN X0.here hx rfl (hb hby d9_0) rfl (XS.sipush X0.here hx rfl (hb hby d9_1) (XS.icmpNo X0.here hx rfl (hb hby d9_4) rfl (flt hc0.2).2.2.1 (XS.iconst X0.here hx rfl (hb hby d9_7) (XS.goto X0.here hx rfl (pc0 := 8) (pc' := 12) rfl (hb hby d9_8) (by decide) (by decide) kk))))) ?_
  refine go_end X0 (v := some (.int (nar .boolean (1 : Int32)))) (fun h => by rw [Bd.returns] at h; cases h) Bd.notSynchronized (by decide) (by decide) (Q := (Q_rm9 Z c0 h0 n0)) ?_ (fun fs hr => retN X0 hx (t := .boolean) Bd.returns (by simp) (hb hby d9_12) hr)
  unfold Q_rm9
  try rw [e0]
  exact ⟨rfl, N0, rfl⟩
theorem d10_0 : decode jdk_43_method_46_code 0 = .ok (.iconst 1, 1) := by decide +kernel
theorem d10_1 : decode jdk_43_method_46_code 1 = .ok (.newarray .byte, 2) := by decide +kernel
theorem d10_3 : decode jdk_43_method_46_code 3 = .ok (.dup, 1) := by decide +kernel
theorem d10_4 : decode jdk_43_method_46_code 4 = .ok (.iconst 0, 1) := by decide +kernel
theorem d10_5 : decode jdk_43_method_46_code 5 = .ok (.iload_n 0, 1) := by decide +kernel
theorem d10_6 : decode jdk_43_method_46_code 6 = .ok (.i2b, 1) := by decide +kernel
theorem d10_7 : decode jdk_43_method_46_code 7 = .ok (.bastore, 1) := by decide +kernel
theorem d10_8 : decode jdk_43_method_46_code 8 = .ok (.areturn, 1) := by decide +kernel
def Q_rm10 (Z : State) (c0 : Int32) (h0 : Heap) (n0 : Nat) (v : Option Value) (h : Heap) (L : List Loc) : Prop := ∃ (t : Addr) (k : ClassId), v = some (.ref t) ∧ Fr n0 L ∧ h0.size ≤ t ∧ Keep h0 h [] ∧ Arv Z h t k .byte 1 [(.int (own_b8 c0))] (.int 0)
theorem ef_rm10 (m : MethodId) (c0 : Int32)  : entryFrame m #[(.int c0)] 1 = mkF m 0 #[.val (.int c0)] [] := by first | (simp [entryFrame, mkF, argsToLocals, Value.category]; done) | rfl
theorem rm10 (l : Launch) (Z : State) (a0 : Array Value) (hw : TW a0 Z) (ws : List Jvm.Cond) (c0 : Int32) (h0 : Heap) (n0 : Nat) (Z0 : n0 ≤ h0.size)  :
    own_MF l Z (⟨"java/lang/StringLatin1", "toBytes", "(C)[B"⟩ : MethodName) jdk_43_method_46_code 1 (some (.array .byte)) ws (own_R 0 1 1 0) #[(.int c0)] h0 (Q_rm10 Z c0 h0 n0) := by
  have wd := @own_wd _ _ hw
  refine MetFree.of_bodySF (plainFor_of_name pn_java_lang_StringLatin1) hisR ?_
  intro p e s m args below meth c s₁ Bd hml0 hP hK
  obtain ⟨rfl, hZ, hh⟩ := hP
  have hx := Bd.exec
  have hby := Bd.bytes
  have hml : c.maxLocals = 1 := hml0
  have hown : s.vm.findClass "java/lang/StringLatin1" = some m.cls := findClass_of_methodNamed Bd.named
  have hnm := (name_of_methodNamed Bd.named Bd.method).1
  have X0 : Stand p l e (own_R 0 1 1 0) s m #[(.int c0)] below meth c s₁ [] 0 0 := Stand.of_body Bd
  have e0 : s₁.heap = h0 := by rw [← hh, Bd.state]; rfl
  have N0 := Fr.nil n0
  refine go_of (A := s₁.setTop (entryFrame m #[(.int c0)] 1)) (B := s₁.setTop (mkF m 0 #[.val (.int c0)] [])) (fun _ kk' => castTop (ef_rm10 m c0) kk') ?_
  refine go_of (B := (s₁.setTop (mkF m 1 #[.val (.int c0)] [(.int (1 : Int32))]))) (fun _ kk => XS.iconst X0.here hx rfl (hb hby d10_0) kk) ?_
  obtain ⟨T1, h1, k1, X1, e1, E1, A1, st1⟩ := newP X0 hx hZ (wd 19 rfl) e0 (g := (mkF m 1 #[.val (.int c0)] [(.int (1 : Int32))])) rfl (hb hby d10_1) rfl (by decide) (cap := 1) (by decide) (by decide) (by decide) (by decide)
  obtain ⟨b1, g1⟩ : ∃ z, z = h0.size := ⟨_, rfl⟩
  rw [← g1] at A1 st1
  have hi1 := own_nlt A1.lt
  have sz1 := E1.1
  have V1 : Arv Z h1 b1 k1 .byte (1 : Int32) [(.int (0 : Int32))] (.int (0 : Int32)) := (Arv.new A1 (by decide)).pad (pad_rep [] (.int (0 : Int32)) 1)
  refine go_of (B := (T1.setTop (mkF m 3 #[.val (.int c0)] [(.ref b1)]))) (st1) ?_
  refine go_of (B := (T1.setTop (mkF m 7 #[.val (.int c0)] [(.int (c0.toInt8.toInt32)), (.int (0 : Int32)), (.ref b1), (.ref b1)]))) (fun _ kk => XS.dup X1.here hx rfl (hb hby d10_3) rfl rfl (XS.iconst X1.here hx rfl (hb hby d10_4) (XS.iloadN X1.here hx rfl (hb hby d10_5) rfl (XS.i2b X1.here hx rfl (hb hby d10_6) rfl kk)))) ?_
  obtain ⟨cl2, Ar2, q2, Sz2, Nn2, Hh2, G2⟩ := id (V1)
  obtain ⟨T3, h3, X3, e3, W3, st3⟩ := stB X1 hx hZ e1 Ar2 (j := (0 : Int32)) (inb_of Sz2 ⟨by decide, by decide⟩) (g := (mkF m 7 #[.val (.int c0)] [(.int (c0.toInt8.toInt32)), (.int (0 : Int32)), (.ref b1), (.ref b1)])) rfl rfl (hb hby d10_7)
  have sz3 := W3.size
  have N3 := Fr.snoc X3 N0 ((by first | omega | exact own_ne (by omega) | exact own_le (by omega) | exact own_lt (by omega)) : n0 ≤ b1)
  have V3 : Arv Z h3 b1 k1 .byte (1 : Int32) [(.int ((c0.toInt8.toInt32).toInt8.toInt32))] (.int (0 : Int32)) := Arv.set Ar2 q2 Sz2 Nn2 Hh2 G2 (fits_nar_byte _) W3 0 rfl (Nat.le_of_ble_eq_true rfl)
  rw [own_bb] at V3
  refine go_of (B := (T3.setTop (mkF m 8 #[.val (.int c0)] [(.ref b1)]))) (st3) ?_
  refine go_end X3 (v := some (.ref b1)) (fun h => by rw [Bd.returns] at h; cases h) Bd.notSynchronized (by decide) (by decide) (Q := (Q_rm10 Z c0 h0 n0)) ?_ (fun fs hr => own_retA X3 hx Bd.returns rfl rfl (hb hby d10_8) hr)
  unfold Q_rm10
  try rw [e3]
  exact ⟨b1, k1, rfl, N3, by omega, (((Keep.refl h0 []).ext E1).wr W3 (Or.inr (by first | omega | exact own_ne (by omega) | exact own_le (by omega) | exact own_lt (by omega)))), V3⟩
theorem d11_0 : decode jdk_42_method_151_code 0 = .ok (.aload_n 0, 1) := by decide +kernel
theorem d11_1 : decode jdk_42_method_151_code 1 = .ok (.invokespecial 1, 3) := by decide +kernel
theorem d11_4 : decode jdk_42_method_151_code 4 = .ok (.aload_n 0, 1) := by decide +kernel
theorem d11_5 : decode jdk_42_method_151_code 5 = .ok (.aload_n 1, 1) := by decide +kernel
theorem d11_6 : decode jdk_42_method_151_code 6 = .ok (.putfield 9, 3) := by decide +kernel
theorem d11_9 : decode jdk_42_method_151_code 9 = .ok (.aload_n 0, 1) := by decide +kernel
theorem d11_10 : decode jdk_42_method_151_code 10 = .ok (.iload_n 2, 1) := by decide +kernel
theorem d11_11 : decode jdk_42_method_151_code 11 = .ok (.putfield 15, 3) := by decide +kernel
theorem d11_14 : decode jdk_42_method_151_code 14 = .ok (.return_, 1) := by decide +kernel
def Q_rm11 (Z : State) (a : Addr) (t : Addr) (c0 : Int32) (k : ClassId) (u : Value) (u2 : Value) (h0 : Heap) (n0 : Nat) (v : Option Value) (h : Heap) (L : List Loc) : Prop := v = none ∧ Fr n0 L ∧ Keep h0 h [a] ∧ Str Z h a 1 [c0]
theorem ef_rm11 (m : MethodId) (a : Addr) (t : Addr)  : entryFrame m #[(.ref a), (.ref t), (.int (0 : Int32))] 3 = mkF m 0 #[.val (.ref a), .val (.ref t), .val (.int (0 : Int32))] [] := by first | (simp [entryFrame, mkF, argsToLocals, Value.category]; done) | rfl
theorem rm11 (l : Launch) (Z : State) (a0 : Array Value) (hw : TW a0 Z) (ws : List Jvm.Cond) (a : Addr) (t : Addr) (c0 : Int32) (k : ClassId) (u : Value) (u2 : Value) (h0 : Heap) (n0 : Nat) (Z0 : n0 ≤ h0.size) (E : Exa Z h0 a "java/lang/String") (F : Fld Z h0 a "java/lang/String" "value" "[B" u) (F2 : Fld Z h0 a "java/lang/String" "coder" "B" u2) (g : n0 ≤ a) (V : Arv Z h0 t k .byte 1 [(.int (own_b8 c0))] (.int 0)) (hat : @Ne Nat t a) (hc0 : ¬ c0 < 0 ∧ ¬ (255 : Int32) < c0) :
    own_MF l Z (⟨"java/lang/String", "<init>", "([BB)V"⟩ : MethodName) jdk_42_method_151_code 3 none ws (own_R 1 0 0 12) #[(.ref a), (.ref t), (.int (0 : Int32))] h0 (Q_rm11 Z a t c0 k u u2 h0 n0) := by
  have wd := @own_wd _ _ hw
  refine MetFree.of_bodySF (plainFor_of_name pn_java_lang_String) hisR ?_
  intro p e s m args below meth c s₁ Bd hml0 hP hK
  obtain ⟨rfl, hZ, hh⟩ := hP
  have hx := Bd.exec
  have hby := Bd.bytes
  have hml : c.maxLocals = 3 := hml0
  have hown : s.vm.findClass "java/lang/String" = some m.cls := findClass_of_methodNamed Bd.named
  have hnm := (name_of_methodNamed Bd.named Bd.method).1
  have X0 : Stand p l e (own_R 1 0 0 12) s m #[(.ref a), (.ref t), (.int (0 : Int32))] below meth c s₁ [] 0 0 := Stand.of_body Bd
  have e0 : s₁.heap = h0 := by rw [← hh, Bd.state]; rfl
  have N0 := Fr.nil n0
  have lta := own_nlt (E.lt)
  have ltt := own_nlt (V.lt)
  refine go_of (A := s₁.setTop (entryFrame m #[(.ref a), (.ref t), (.int (0 : Int32))] 3)) (B := s₁.setTop (mkF m 0 #[.val (.ref a), .val (.ref t), .val (.int (0 : Int32))] [])) (fun _ kk' => castTop (ef_rm11 m a t) kk') ?_
  refine go_of (B := (s₁.setTop (mkF m 1 #[.val (.ref a), .val (.ref t), .val (.int (0 : Int32))] [(.ref a)]))) (fun _ kk => XS.aloadN X0.here hx rfl (hb hby d11_0) rfl rfl kk) ?_
  obtain ⟨T1, X1, e1, st1⟩ := initO X0 hx hZ hown (wd 15 rfl) (wd 16 rfl) (wd 17 rfl) e0 (g := (mkF m 1 #[.val (.ref a), .val (.ref t), .val (.int (0 : Int32))] [(.ref a)])) rfl (by rw [hml]; rfl) rfl (hb hby d11_1) (by decide) (W := 0) (by show 2 * 0 + _ ≤ _; exact Nat.le_of_eq rfl) (by decide)
  refine go_of (B := (T1.setTop (mkF m 4 #[.val (.ref a), .val (.ref t), .val (.int (0 : Int32))] []))) (st1) ?_
  refine go_of (B := (T1.setTop (mkF m 6 #[.val (.ref a), .val (.ref t), .val (.int (0 : Int32))] [(.ref t), (.ref a)]))) (fun _ kk => XS.aloadN X1.here hx rfl (hb hby d11_4) rfl rfl (XS.aloadN X1.here hx rfl (hb hby d11_5) rfl rfl kk)) ?_
  obtain ⟨T2, h2, X2, e2, W2, st2⟩ := putF X1 hx hZ hown (host := "") (Or.inl (wd 24 rfl)) Via.refl e1 F E (Or.inr ⟨(wd 20 rfl), rfl, hnm⟩) (wd 5 rfl) (ty := (.array .byte)) (by decide) rfl rfl (g := (mkF m 6 #[.val (.ref a), .val (.ref t), .val (.int (0 : Int32))] [(.ref t), (.ref a)])) rfl rfl (hb hby d11_6)
  have sz2 := W2.size
  have Fw2 := F.same W2
  have N2 := Fr.snoc X2 N0 (g : n0 ≤ a)
  refine go_of (B := (T2.setTop (mkF m 9 #[.val (.ref a), .val (.ref t), .val (.int (0 : Int32))] []))) (st2) ?_
  refine go_of (B := (T2.setTop (mkF m 11 #[.val (.ref a), .val (.ref t), .val (.int (0 : Int32))] [(.int (0 : Int32)), (.ref a)]))) (fun _ kk => XS.aloadN X2.here hx rfl (hb hby d11_9) rfl rfl (XS.iloadN X2.here hx rfl (hb hby d11_10) rfl kk)) ?_
  have cf_3 := (E.wr W2)
  have cf_4 := (F2.other W2 (Or.inr (slot_ne (Or.inr (wd 21 rfl)) (Or.inr (wd 20 rfl)) (by decide) (t := .byte) (t' := (.array .byte)) (by decide) (by decide))))
  obtain ⟨T5, h5, X5, e5, W5, st5⟩ := putFN X2 hx hZ hown (wd 25 rfl) Via.refl e2 cf_4 cf_3 (Or.inr ⟨(wd 21 rfl), rfl, hnm⟩) (wd 5 rfl) (ty := .byte) (v' := (.int (nar .byte (0 : Int32)))) (by decide) rfl (fits_nar_byte _) (g := (mkF m 11 #[.val (.ref a), .val (.ref t), .val (.int (0 : Int32))] [(.int (0 : Int32)), (.ref a)])) rfl rfl (hb hby d11_11)
  have sz5 := W5.size
  have Fw5 := cf_4.same W5
  have N5 := Fr.snoc X5 N2 (g : n0 ≤ a)
  refine go_of (B := (T5.setTop (mkF m 14 #[.val (.ref a), .val (.ref t), .val (.int (0 : Int32))] []))) (st5) ?_
  have cf_6 := ((V.other W2 (by first | omega | exact own_ne (by omega) | exact own_le (by omega) | exact own_lt (by omega))).other W5 (by first | omega | exact own_ne (by omega) | exact own_le (by omega) | exact own_lt (by omega)))
  have cf_7 := (Fw2.other W5 (Or.inr (slot_ne (Or.inr (wd 20 rfl)) (Or.inr (wd 21 rfl)) (by decide) (t := (.array .byte)) (t' := .byte) (by decide) (by decide))))
  have cf_8 := (cf_3.wr W5)
  refine go_end X5 (v := none) (fun _ => rfl) Bd.notSynchronized (by decide) (by decide) (Q := (Q_rm11 Z a t c0 k u u2 h0 n0)) ?_ (fun fs hr => X5.returnOut hx Bd.returns (hb hby d11_14) hr)
  unfold Q_rm11
  try rw [e5]
  exact ⟨rfl, N5, (((Keep.refl h0 [a]).wr W2 (Or.inl (List.mem_of_getElem? (i := 0) rfl))).wr W5 (Or.inl (List.mem_of_getElem? (i := 0) rfl))), ⟨t, k, cf_8, Fw5, cf_7, cf_6, (own_allc hc0 (fun _ q => nomatch q))⟩⟩
theorem d8_0 : decode jdk_42_method_139_code 0 = .ok (.getstatic 38, 3) := by decide +kernel
theorem d8_3 : decode jdk_42_method_139_code 3 = .ok (.ifCond .eq 23, 3) := by decide +kernel
theorem d8_6 : decode jdk_42_method_139_code 6 = .ok (.iload_n 0, 1) := by decide +kernel
theorem d8_7 : decode jdk_42_method_139_code 7 = .ok (.invokestatic 1015, 3) := by decide +kernel
theorem pd__C_Z : parseMethodDescriptor "(C)Z" = some ⟨[.char], some .boolean⟩ := by decide +kernel
theorem d8_10 : decode jdk_42_method_139_code 10 = .ok (.ifCond .eq 16, 3) := by decide +kernel
theorem d8_13 : decode jdk_42_method_139_code 13 = .ok (.new 10, 3) := by decide +kernel
theorem d8_16 : decode jdk_42_method_139_code 16 = .ok (.dup, 1) := by decide +kernel
theorem d8_17 : decode jdk_42_method_139_code 17 = .ok (.iload_n 0, 1) := by decide +kernel
theorem d8_18 : decode jdk_42_method_139_code 18 = .ok (.invokestatic 1018, 3) := by decide +kernel
theorem pd__C__B : parseMethodDescriptor "(C)[B" = some ⟨[.char], some (.array .byte)⟩ := by decide +kernel
theorem d8_21 : decode jdk_42_method_139_code 21 = .ok (.iconst 0, 1) := by decide +kernel
theorem d8_22 : decode jdk_42_method_139_code 22 = .ok (.invokespecial 209, 3) := by decide +kernel
theorem pd___BB_V : parseMethodDescriptor "([BB)V" = some ⟨[(.array .byte), .byte], none⟩ := by decide +kernel
theorem d8_25 : decode jdk_42_method_139_code 25 = .ok (.areturn, 1) := by decide +kernel
def Q_rm8 (Z : State) (c0 : Int32) (gC : Int32) (h0 : Heap) (n0 : Nat) (v : Option Value) (h : Heap) (L : List Loc) : Prop := ∃ t : Addr, v = some (.ref t) ∧ Fr n0 L ∧ h0.size ≤ t ∧ Keep h0 h [] ∧ Str Z h t 1 [c0]
theorem ef_rm8 (m : MethodId) (c0 : Int32)  : entryFrame m #[(.int c0)] 1 = mkF m 0 #[.val (.int c0)] [] := by first | (simp [entryFrame, mkF, argsToLocals, Value.category]; done) | rfl
theorem rm8 (l : Launch) (Z : State) (a0 : Array Value) (hw : TW a0 Z) (ws : List Jvm.Cond) (c0 : Int32) (gC : Int32) (h0 : Heap) (n0 : Nat) (Z0 : n0 ≤ h0.size) (O : Old Z n0 h0) (SC : Sta Z Z.heap "java/lang/String" "COMPACT_STRINGS" "Z" (.int gC)) (hgC : ¬ gC = (0 : Int32)) (hc0 : ¬ c0 < 0 ∧ ¬ (255 : Int32) < c0) :
    own_MF l Z (⟨"java/lang/String", "valueOf", "(C)Ljava/lang/String;"⟩ : MethodName) jdk_42_method_139_code 1 (some (.object "java/lang/String")) ws (own_R 2 2 5 27) #[(.int c0)] h0 (Q_rm8 Z c0 gC h0 n0) := by
  have wd := @own_wd _ _ hw
  refine MetFree.of_bodySF (plainFor_of_name pn_java_lang_String) hisR ?_
  intro p e s m args below meth c s₁ Bd hml0 hP hK
  obtain ⟨rfl, hZ, hh⟩ := hP
  have hx := Bd.exec
  have hby := Bd.bytes
  have hml : c.maxLocals = 1 := hml0
  have hown : s.vm.findClass "java/lang/String" = some m.cls := findClass_of_methodNamed Bd.named
  have hnm := (name_of_methodNamed Bd.named Bd.method).1
  have X0 : Stand p l e (own_R 2 2 5 27) s m #[(.int c0)] below meth c s₁ [] 0 0 := Stand.of_body Bd
  have e0 : s₁.heap = h0 := by rw [← hh, Bd.state]; rfl
  have N0 := Fr.nil n0
  refine go_of (A := s₁.setTop (entryFrame m #[(.int c0)] 1)) (B := s₁.setTop (mkF m 0 #[.val (.int c0)] [])) (fun _ kk' => castTop (ef_rm8 m c0) kk') ?_
  obtain ⟨T1, X1, e1, st1⟩ := getS2 X0 hx hZ hown (host := "") (Or.inl (wd 52 rfl)) Via.refl e0 (SC.ext O.2) (g := (mkF m 0 #[.val (.int c0)] [])) rfl (hb hby d8_0)
  refine go_of (B := (T1.setTop (mkF m 3 #[.val (.int c0)] [(.int gC)]))) (st1) ?_
  refine go_of (B := (T1.setTop (mkF m 7 #[.val (.int c0)] [(.int c0)]))) (fun _ kk => XS.ifNo X1.here hx rfl (hb hby d8_3) rfl ((if0 _ _).trans (feq hgC).1) (XS.iloadN X1.here hx rfl (hb hby d8_6) rfl kk)) ?_
  obtain ⟨_, _, ⟨T2, L2, k2, n2⟩, -, X2, ⟨Lc2, hQ2, l2, y2, z2⟩, st2⟩ := Jvm.LawKit.callS X1 hx (y := (⟨"java/lang/StringLatin1", "canEncode", "(C)Z"⟩ : MethodName)) hown (mvT hZ (wd 53 rfl)) (mvT hZ (wd 54 rfl)) (mvT hZ (wd 55 rfl)) (mvT hZ (wd 56 rfl)) (by decide) (backOf (W := 0) (rm9 l Z a0 hw [] c0 h0 n0 (by first | omega | exact own_ne (by omega) | exact own_le (by omega) | exact own_lt (by omega)) hc0) hZ (wd 56 rfl) (wd 55 rfl) (by decide) (by decide)) (g := (mkF m 7 #[.val (.int c0)] [(.int c0)])) rfl (by rw [hml]; rfl) (argsL := [(.int c0)]) (rest := []) (lenOf pd__C_Z rfl) rfl (by show 2 * 0 + _ ≤ _; exact Nat.le_of_eq rfl) (hb hby d8_7) (fun _ _ => ⟨rfl, e1, (by decide : 0 + 0 ≤ _), (by decide : 0 + 0 ≤ _)⟩)
  dsimp only [Pt.U, Pt.locs, Pt.cells, Pt.slots] at X2 l2 y2 z2 st2 hQ2
  subst l2 y2 z2
  obtain ⟨rfl, N2q, e2⟩ := hQ2
  have N2 := Fr.app N0 N2q
  refine go_of (B := (T2.setTop (mkF m 10 #[.val (.int c0)] [(.int (1 : Int32))]))) (st2) ?_
  refine go_of (B := (T2.setTop (mkF m 13 #[.val (.int c0)] []))) (fun _ kk => XS.ifNo X2.here hx rfl (hb hby d8_10) rfl ((if0 _ _).trans (feq (by decide : ¬ ((1 : Int32) = (0 : Int32)))).1) kk) ?_
  obtain ⟨T3, h3, X3, e3, E3, A3, D3, -, st3⟩ := newO X2 hx hZ hown (wd 57 rfl) (wd 5 rfl) (wd 6 rfl) e2 (g := (mkF m 13 #[.val (.int c0)] [])) rfl (hb hby d8_13) (by decide) (by decide)
  obtain ⟨b3, g3⟩ : ∃ z, z = h0.size := ⟨_, rfl⟩
  rw [← g3] at A3 D3 st3
  have hi3 := own_nlt A3.lt
  have sz3 := E3.1
  have F3_value : Fld Z h3 b3 "java/lang/String" "value" "[B" .null := D3 (Or.inr (wd 20 rfl)) (ty := (.array .byte)) (by decide)
  have F3_coder : Fld Z h3 b3 "java/lang/String" "coder" "B" (.int (0 : Int32)) := D3 (Or.inr (wd 21 rfl)) (ty := .byte) (by decide)
  refine go_of (B := (T3.setTop (mkF m 16 #[.val (.int c0)] [(.ref b3)]))) (st3) ?_
  refine go_of (B := (T3.setTop (mkF m 18 #[.val (.int c0)] [(.int c0), (.ref b3), (.ref b3)]))) (fun _ kk => XS.dup X3.here hx rfl (hb hby d8_16) rfl rfl (XS.iloadN X3.here hx rfl (hb hby d8_17) rfl kk)) ?_
  obtain ⟨_, _, ⟨T4, L4, k4, n4⟩, -, X4, ⟨Lc4, hQ4, l4, y4, z4⟩, st4⟩ := Jvm.LawKit.callS X3 hx (y := (⟨"java/lang/StringLatin1", "toBytes", "(C)[B"⟩ : MethodName)) hown (mvT hZ (wd 58 rfl)) (mvT hZ (wd 59 rfl)) (mvT hZ (wd 55 rfl)) (mvT hZ (wd 60 rfl)) (by decide) (backOf (W := 2) (rm10 l Z a0 hw [] c0 h3 n0 (by first | omega | exact own_ne (by omega) | exact own_le (by omega) | exact own_lt (by omega))) hZ (wd 60 rfl) (wd 55 rfl) (by decide) (by decide)) (g := (mkF m 18 #[.val (.int c0)] [(.int c0), (.ref b3), (.ref b3)])) rfl (by rw [hml]; rfl) (argsL := [(.int c0)]) (rest := [(.ref b3), (.ref b3)]) (lenOf pd__C__B rfl) rfl (by show 2 * 0 + _ ≤ _; exact Nat.le_of_eq rfl) (hb hby d8_18) (fun _ _ => ⟨rfl, e3, (by decide : 1 + 1 ≤ _), (by decide : 4 + 1 ≤ _)⟩)
  dsimp only [Pt.U, Pt.locs, Pt.cells, Pt.slots] at X4 l4 y4 z4 st4 hQ4
  subst l4 y4 z4
  obtain ⟨b4, k4, rfl, N4q, lo4, K4, V4⟩ := hQ4
  have lo4 := own_nle lo4
  have N4 := Fr.app N2 N4q
  have hi4 := own_nlt (V4.lt)
  have sz4 := K4.1
  refine go_of (B := (T4.setTop (mkF m 21 #[.val (.int c0)] [(.ref b4), (.ref b3), (.ref b3)]))) (st4) ?_
  refine go_of (B := (T4.setTop (mkF m 22 #[.val (.int c0)] [(.int (0 : Int32)), (.ref b4), (.ref b3), (.ref b3)]))) (fun _ kk => XS.iconst X4.here hx rfl (hb hby d8_21) kk) ?_
  have cf_5 := (A3.keep K4)
  have cf_6 := (F3_value.keep K4 nin0)
  have cf_7 := (F3_coder.keep K4 nin0)
  obtain ⟨_, _, ⟨T8, L8, k8, n8⟩, -, X8, ⟨Lc8, hQ8, l8, y8, z8⟩, st8⟩ := X4.specialBack hx (y := (⟨"java/lang/String", "<init>", "([BB)V"⟩ : MethodName)) rfl hown (mvT hZ (wd 61 rfl)) (mvT hZ (wd 62 rfl)) (mvT hZ (wd 63 rfl)) (by decide) (backOf (W := 1) (rm11 l Z a0 hw [] b3 b4 c0 k4 _ _ T4.heap n0 (by first | omega | exact own_ne (by omega) | exact own_le (by omega) | exact own_lt (by omega)) cf_5 cf_6 cf_7 (by first | omega | exact own_ne (by omega) | exact own_le (by omega) | exact own_lt (by omega)) V4 (by first | omega | exact own_ne (by omega) | exact own_le (by omega) | exact own_lt (by omega)) hc0) hZ (wd 63 rfl) (wd 6 rfl) (by decide) (by decide)) (g := (mkF m 22 #[.val (.int c0)] [(.int (0 : Int32)), (.ref b4), (.ref b3), (.ref b3)])) rfl (by rw [hml]; rfl) (Steps.refl _) (a := b3) (argsL := [(.ref b4), (.int (0 : Int32))]) (rest := [(.ref b3)]) (lenOf pd___BB_V rfl) rfl (by show 2 * 0 + _ ≤ _; exact Nat.le_of_eq rfl) (hb hby d8_22) (fun _ _ => ⟨rfl, rfl, (by decide : 2 + 0 ≤ _), (by decide : 5 + 0 ≤ _)⟩)
  dsimp only [Pt.U, Pt.locs, Pt.cells, Pt.slots] at X8 l8 y8 z8 st8 hQ8
  subst l8 y8 z8
  obtain ⟨rfl, N8q, K8, S8⟩ := hQ8
  have N8 := Fr.app N4 N8q
  have sz8 := K8.1
  refine go_tr (B := (T8.setTop (mkF m 25 #[.val (.int c0)] [(.ref b3)]))) (st8) ?_
  refine go_end X8 (v := some (.ref b3)) (fun h => by rw [Bd.returns] at h; cases h) Bd.notSynchronized (by decide) (by decide) (Q := (Q_rm8 Z c0 gC h0 n0)) ?_ (fun fs hr => own_retA X8 hx Bd.returns rfl rfl (hb hby d8_25) hr)
  unfold Q_rm8
  exact ⟨b3, rfl, N8, by omega, ((((Keep.refl h0 []).ext E3).trans K4 all0).trans K8 (allS (Or.inr (by first | omega | exact own_ne (by omega) | exact own_le (by omega) | exact own_lt (by omega))) all0)), S8⟩
theorem d3_0 : decode jdk_42_method_149_code 0 = .ok (.aload_n 0, 1) := by decide +kernel
theorem d3_1 : decode jdk_42_method_149_code 1 = .ok (.invokespecial 1, 3) := by decide +kernel
theorem d3_4 : decode jdk_42_method_149_code 4 = .ok (.iload_n 3, 1) := by decide +kernel
theorem d3_5 : decode jdk_42_method_149_code 5 = .ok (.ifCond .ne 22, 3) := by decide +kernel
theorem d3_8 : decode jdk_42_method_149_code 8 = .ok (.aload_n 0, 1) := by decide +kernel
theorem d3_9 : decode jdk_42_method_149_code 9 = .ok (.ldc 7, 2) := by decide +kernel
theorem d3_11 : decode jdk_42_method_149_code 11 = .ok (.getfield 9, 3) := by decide +kernel
theorem d3_14 : decode jdk_42_method_149_code 14 = .ok (.putfield 9, 3) := by decide +kernel
theorem d3_17 : decode jdk_42_method_149_code 17 = .ok (.aload_n 0, 1) := by decide +kernel
theorem d3_18 : decode jdk_42_method_149_code 18 = .ok (.ldc 7, 2) := by decide +kernel
theorem d3_20 : decode jdk_42_method_149_code 20 = .ok (.getfield 15, 3) := by decide +kernel
theorem d3_23 : decode jdk_42_method_149_code 23 = .ok (.putfield 15, 3) := by decide +kernel
theorem d3_26 : decode jdk_42_method_149_code 26 = .ok (.return_, 1) := by decide +kernel
def Q_str_i4_0 (Z : State) (a : Addr) (s' : Addr) (u2 : Value) (h0 : Heap) (n0 : Nat) (v : Option Value) (h : Heap) (L : List Loc) : Prop := v = none ∧ Fr n0 L ∧ Keep h0 h [a] ∧ Str Z h a 0 []
theorem ef_str_i4_0 (m : MethodId) (a : Addr) (s' : Addr)  : entryFrame m #[(.ref a), (.ref s'), (.int (0 : Int32)), (.int (0 : Int32)), .null] 6 = mkF m 0 #[.val (.ref a), .val (.ref s'), .val (.int (0 : Int32)), .val (.int (0 : Int32)), .val .null, .unset] [] := by first | (simp [entryFrame, mkF, argsToLocals, Value.category]; done) | rfl
theorem str_i4_0 (l : Launch) (Z : State) (a0 : Array Value) (hw : TW a0 Z) (ws : List Jvm.Cond) (a : Addr) (s' : Addr) (u2 : Value) (h0 : Heap) (n0 : Nat) (Z0 : n0 ≤ h0.size) (E : Exa Z h0 a "java/lang/String") (F : Fld Z h0 a "java/lang/String" "value" "[B" .null) (F2 : Fld Z h0 a "java/lang/String" "coder" "B" u2) (g : n0 ≤ a) :
    own_MFH l Z MN4 jdk_42_method_149_code 6 none ws (own_R 1 4 8 12) #[(.ref a), (.ref s'), (.int (0 : Int32)), (.int (0 : Int32)), .null] h0 (Q_str_i4_0 Z a s' u2 h0 n0) := by
  have wd := @own_wd _ _ hw
  refine MetFree.of_bodySF (plainFor_of_name pn_java_lang_String) hisR ?_
  intro p e s m args below meth c s₁ Bd hml0 hP hK
  obtain ⟨rfl, hZ, hh, hCH⟩ := hP
  have hx := Bd.exec
  have hby := Bd.bytes
  have hml : c.maxLocals = 6 := hml0
  have hown : s.vm.findClass "java/lang/String" = some m.cls := findClass_of_methodNamed Bd.named
  have hnm := (name_of_methodNamed Bd.named Bd.method).1
  have X0 : Stand p l e (own_R 1 4 8 12) (s.setVm s.vm) m #[(.ref a), (.ref s'), (.int (0 : Int32)), (.int (0 : Int32)), .null] below meth c s₁ [] 0 0 := Stand.of_body Bd
  have e0 : s₁.heap = h0 := by rw [← hh, Bd.state]; rfl
  have N0 := Fr.nil n0
  have hS : s.Since s.vm 0 := (State.WarmedH.refl s).since 0
  have hh0 := hh
  have hEL := own_EW hw
  have HC0 := CHr.refl hCH
  have lta := own_nlt (E.lt)
  refine go_of (A := s₁.setTop (entryFrame m #[(.ref a), (.ref s'), (.int (0 : Int32)), (.int (0 : Int32)), .null] 6)) (B := s₁.setTop (mkF m 0 #[.val (.ref a), .val (.ref s'), .val (.int (0 : Int32)), .val (.int (0 : Int32)), .val .null, .unset] [])) (fun _ kk' => castTop (ef_str_i4_0 m a s') kk') ?_
  refine go_of (B := (s₁.setTop (mkF m 1 #[.val (.ref a), .val (.ref s'), .val (.int (0 : Int32)), .val (.int (0 : Int32)), .val .null, .unset] [(.ref a)]))) (fun _ kk => XS.aloadN X0.here hx rfl (hb hby d3_0) rfl rfl kk) ?_
  obtain ⟨T1, X1, e1, st1⟩ := initO X0 hx hZ hown (wd 15 rfl) (wd 16 rfl) (wd 17 rfl) e0 (g := (mkF m 1 #[.val (.ref a), .val (.ref s'), .val (.int (0 : Int32)), .val (.int (0 : Int32)), .val .null, .unset] [(.ref a)])) rfl (by rw [hml]; rfl) rfl (hb hby d3_1) (by decide) (W := 0) (by show 2 * 0 + _ ≤ _; exact Nat.le_of_eq rfl) (by decide)
  refine go_of (B := (T1.setTop (mkF m 4 #[.val (.ref a), .val (.ref s'), .val (.int (0 : Int32)), .val (.int (0 : Int32)), .val .null, .unset] []))) (st1) ?_
  refine go_of (B := (T1.setTop (mkF m 8 #[.val (.ref a), .val (.ref s'), .val (.int (0 : Int32)), .val (.int (0 : Int32)), .val .null, .unset] []))) (fun _ kk => XS.iloadN X1.here hx rfl (hb hby d3_4) rfl (XS.ifNo X1.here hx rfl (hb hby d3_5) rfl ((if0 _ _).trans (teq (by decide : (0 : Int32) = (0 : Int32))).2) kk)) ?_
  have sf_2 := (own_safe_null hZ.alike E F : (Safe Z own_EL _ h0 a))
  refine go_of (B := (T1.setTop (mkF m 9 #[.val (.ref a), .val (.ref s'), .val (.int (0 : Int32)), .val (.int (0 : Int32)), .val .null, .unset] [(.ref a)]))) (fun _ kk => XS.aloadN X1.here hx rfl (hb hby d3_8) rfl rfl kk) ?_
  obtain ⟨b3, T3, h3, k3, t3, kt3, X3, e3, E3, hS, hk3, hZ, hown, A3, Fc3, Fv3, V3, lb3, lt3, HR3, -, ne3, st3⟩ := ldcCH X1 hx hZ hown (wd 18 rfl) (own_wS hw) e1 hS (by first | omega | exact own_ne (by omega) | exact own_le (by omega) | exact own_lt (by omega)) hEL (List.mem_of_getElem? (i := 0) rfl) HC0.1 (vs := []) (z := 0) ⟨(by decide), (by first | rfl | decide)⟩ (by decide) rfl (g := (mkF m 9 #[.val (.ref a), .val (.ref s'), .val (.int (0 : Int32)), .val (.int (0 : Int32)), .val .null, .unset] [(.ref a)])) rfl (hb hby d3_9) (n := 0) (by decide) (by decide) (by decide) (by decide)
  have lb3 := own_nlt lb3
  have lt3 := own_nlt lt3
  have sz3 := E3.1
  have HC3 := HC0.trans HR3
  have sf_4 := (HR3.safe (by first | omega | exact own_ne (by omega) | exact own_le (by omega) | exact own_lt (by omega)) sf_2)
  have nt3_a : @Ne Nat t3 a := fun q => (ne3 a sf_4).2 q.symm
  have nb3_a : @Ne Nat b3 a := fun q => (ne3 a sf_4).1 q.symm
  refine go_of (B := (T3.setTop (mkF m 11 #[.val (.ref a), .val (.ref s'), .val (.int (0 : Int32)), .val (.int (0 : Int32)), .val .null, .unset] [(.ref b3), (.ref a)]))) (st3) ?_
  obtain ⟨T5, X5, e5, st5⟩ := getF X3 hx hZ hown (host := "") (Or.inl (wd 24 rfl)) Via.refl e3 Fv3 (g := (mkF m 11 #[.val (.ref a), .val (.ref s'), .val (.int (0 : Int32)), .val (.int (0 : Int32)), .val .null, .unset] [(.ref b3), (.ref a)])) rfl rfl (hb hby d3_11)
  refine go_of (B := (T5.setTop (mkF m 14 #[.val (.ref a), .val (.ref s'), .val (.int (0 : Int32)), .val (.int (0 : Int32)), .val .null, .unset] [(.ref t3), (.ref a)]))) (st5) ?_
  have cf_6 := (E.ext E3)
  have cf_7 := (F.ext E3)
  obtain ⟨T8, h8, X8, e8, W8, st8⟩ := putF X5 hx hZ hown (host := "") (Or.inl (wd 24 rfl)) Via.refl e5 cf_7 cf_6 (Or.inr ⟨(wd 20 rfl), rfl, hnm⟩) (wd 5 rfl) (ty := (.array .byte)) (by decide) rfl rfl (g := (mkF m 14 #[.val (.ref a), .val (.ref s'), .val (.int (0 : Int32)), .val (.int (0 : Int32)), .val .null, .unset] [(.ref t3), (.ref a)])) rfl rfl (hb hby d3_14)
  have sz8 := W8.size
  have Fw8 := cf_7.same W8
  have N8 := Fr.snoc X8 N0 (g : n0 ≤ a)
  have SF8 := sf_4
  have HC8 := HC3.trans (CHr.wr W8 SF8 HC3.1)
  refine go_of (B := (T8.setTop (mkF m 17 #[.val (.ref a), .val (.ref s'), .val (.int (0 : Int32)), .val (.int (0 : Int32)), .val .null, .unset] []))) (st8) ?_
  refine go_of (B := (T8.setTop (mkF m 18 #[.val (.ref a), .val (.ref s'), .val (.int (0 : Int32)), .val (.int (0 : Int32)), .val .null, .unset] [(.ref a)]))) (fun _ kk => XS.aloadN X8.here hx rfl (hb hby d3_17) rfl rfl kk) ?_
  obtain ⟨b9, T9, h9, k9, t9, kt9, X9, e9, E9, hS, hk9, hZ, hown, A9, Fc9, Fv9, V9, lb9, lt9, HR9, -, ne9, st9⟩ := ldcCH X8 hx hZ hown (wd 18 rfl) (own_wS hw) e8 hS (by first | omega | exact own_ne (by omega) | exact own_le (by omega) | exact own_lt (by omega)) hEL (List.mem_of_getElem? (i := 0) rfl) HC8.1 (vs := []) (z := 0) ⟨(by decide), (by first | rfl | decide)⟩ (by decide) rfl (g := (mkF m 18 #[.val (.ref a), .val (.ref s'), .val (.int (0 : Int32)), .val (.int (0 : Int32)), .val .null, .unset] [(.ref a)])) rfl (hb hby d3_18) (n := 0) (by decide) (by decide) (by decide) (by decide)
  have lb9 := own_nlt lb9
  have lt9 := own_nlt lt9
  have sz9 := E9.1
  have HC9 := HC8.trans HR9
  have sf_10 := (HR9.safe (by first | omega | exact own_ne (by omega) | exact own_le (by omega) | exact own_lt (by omega)) (Safe.wr W8 SF8 HC3.1 sf_4))
  have nt9_a : @Ne Nat t9 a := fun q => (ne9 a sf_10).2 q.symm
  have nb9_a : @Ne Nat b9 a := fun q => (ne9 a sf_10).1 q.symm
  refine go_of (B := (T9.setTop (mkF m 20 #[.val (.ref a), .val (.ref s'), .val (.int (0 : Int32)), .val (.int (0 : Int32)), .val .null, .unset] [(.ref b9), (.ref a)]))) (st9) ?_
  obtain ⟨T11, X11, e11, st11⟩ := getF X9 hx hZ hown (host := "") (Or.inl (wd 25 rfl)) Via.refl e9 Fc9 (g := (mkF m 20 #[.val (.ref a), .val (.ref s'), .val (.int (0 : Int32)), .val (.int (0 : Int32)), .val .null, .unset] [(.ref b9), (.ref a)])) rfl rfl (hb hby d3_20)
  refine go_of (B := (T11.setTop (mkF m 23 #[.val (.ref a), .val (.ref s'), .val (.int (0 : Int32)), .val (.int (0 : Int32)), .val .null, .unset] [(.int (0 : Int32)), (.ref a)]))) (st11) ?_
  have cf_12 := ((cf_6.wr W8).ext E9)
  have cf_13 := (((F2.ext E3).other W8 (Or.inr (slot_ne (Or.inr (wd 21 rfl)) (Or.inr (wd 20 rfl)) (by decide) (t := .byte) (t' := (.array .byte)) (by decide) (by decide)))).ext E9)
  obtain ⟨T14, h14, X14, e14, W14, st14⟩ := putFN X11 hx hZ hown (wd 25 rfl) Via.refl e11 cf_13 cf_12 (Or.inr ⟨(wd 21 rfl), rfl, hnm⟩) (wd 5 rfl) (ty := .byte) (v' := (.int (nar .byte (0 : Int32)))) (by decide) rfl (fits_nar_byte _) (g := (mkF m 23 #[.val (.ref a), .val (.ref s'), .val (.int (0 : Int32)), .val (.int (0 : Int32)), .val .null, .unset] [(.int (0 : Int32)), (.ref a)])) rfl rfl (hb hby d3_23)
  have sz14 := W14.size
  have Fw14 := cf_13.same W14
  have N14 := Fr.snoc X14 N8 (g : n0 ≤ a)
  have SF14 := sf_10
  have HC14 := HC9.trans (CHr.wr W14 SF14 HC9.1)
  refine go_of (B := (T14.setTop (mkF m 26 #[.val (.ref a), .val (.ref s'), .val (.int (0 : Int32)), .val (.int (0 : Int32)), .val .null, .unset] []))) (st14) ?_
  have cf_15 := (((V3.other W8 (by first | omega | exact own_ne (by omega) | exact own_le (by omega) | exact own_lt (by omega))).ext E9).other W14 (by first | omega | exact own_ne (by omega) | exact own_le (by omega) | exact own_lt (by omega)))
  have cf_16 := ((Fw8.ext E9).other W14 (Or.inr (slot_ne (Or.inr (wd 20 rfl)) (Or.inr (wd 21 rfl)) (by decide) (t := (.array .byte)) (t' := .byte) (by decide) (by decide))))
  have cf_17 := (cf_12.wr W14)
  refine go_endH X14 hZ hEL HC14 hh0 e14 hS (by rw [e14]; omega) (v := none) (fun _ => rfl) Bd.notSynchronized (by decide) (by decide) (Q := (Q_str_i4_0 Z a s' u2 h0 n0)) ?_ (fun fs hr => X14.returnOut hx Bd.returns (hb hby d3_26) hr)
  unfold Q_str_i4_0
  try rw [e14]
  exact ⟨rfl, N14, (((((Keep.refl h0 [a]).ext E3).wr W8 (Or.inl (List.mem_of_getElem? (i := 0) rfl))).ext E9).wr W14 (Or.inl (List.mem_of_getElem? (i := 0) rfl))), ⟨t3, kt3, cf_17, Fw14, cf_16, cf_15, (fun _ q => nomatch q)⟩⟩
theorem d2_0 : decode jdk_42_method_3_code 0 = .ok (.aload_n 0, 1) := by decide +kernel
theorem d2_1 : decode jdk_42_method_3_code 1 = .ok (.aload_n 1, 1) := by decide +kernel
theorem d2_2 : decode jdk_42_method_3_code 2 = .ok (.iconst 0, 1) := by decide +kernel
theorem d2_3 : decode jdk_42_method_3_code 3 = .ok (.aload_n 1, 1) := by decide +kernel
theorem d2_4 : decode jdk_42_method_3_code 4 = .ok (.arraylength, 1) := by decide +kernel
theorem d2_5 : decode jdk_42_method_3_code 5 = .ok (.aconst_null, 1) := by decide +kernel
theorem d2_6 : decode jdk_42_method_3_code 6 = .ok (.invokespecial 27, 3) := by decide +kernel
theorem pd___CIILjava_lang_Void__V : parseMethodDescriptor "([CIILjava/lang/Void;)V" = some ⟨[(.array .char), .int, .int, (.object "java/lang/Void")], none⟩ := by decide +kernel
theorem d2_9 : decode jdk_42_method_3_code 9 = .ok (.return_, 1) := by decide +kernel
def Q_str_i1_0 (Z : State) (a : Addr) (s' : Addr) (u2 : Value) (ks : ClassId) (h0 : Heap) (n0 : Nat) (v : Option Value) (h : Heap) (L : List Loc) : Prop := v = none ∧ Fr n0 L ∧ Keep h0 h [a] ∧ Str Z h a 0 []
theorem ef_str_i1_0 (m : MethodId) (a : Addr) (s' : Addr)  : entryFrame m #[(.ref a), (.ref s')] 2 = mkF m 0 #[.val (.ref a), .val (.ref s')] [] := by first | (simp [entryFrame, mkF, argsToLocals, Value.category]; done) | rfl
theorem str_i1_0 (l : Launch) (Z : State) (a0 : Array Value) (hw : TW a0 Z) (ws : List Jvm.Cond) (a : Addr) (s' : Addr) (u2 : Value) (ks : ClassId) (h0 : Heap) (n0 : Nat) (Z0 : n0 ≤ h0.size) (E : Exa Z h0 a "java/lang/String") (F : Fld Z h0 a "java/lang/String" "value" "[B" .null) (F2 : Fld Z h0 a "java/lang/String" "coder" "B" u2) (g : n0 ≤ a) (Vs : Arv Z h0 s' ks .char 0 [] (.int 0)) :
    own_MFH l Z MN3 jdk_42_method_3_code 2 none ws (own_R 2 4 8 29) #[(.ref a), (.ref s')] h0 (Q_str_i1_0 Z a s' u2 ks h0 n0) := by
  have wd := @own_wd _ _ hw
  refine MetFree.of_bodySF (plainFor_of_name pn_java_lang_String) hisR ?_
  intro p e s m args below meth c s₁ Bd hml0 hP hK
  obtain ⟨rfl, hZ, hh, hCH⟩ := hP
  have hx := Bd.exec
  have hby := Bd.bytes
  have hml : c.maxLocals = 2 := hml0
  have hown : s.vm.findClass "java/lang/String" = some m.cls := findClass_of_methodNamed Bd.named
  have hnm := (name_of_methodNamed Bd.named Bd.method).1
  have X0 : Stand p l e (own_R 2 4 8 29) (s.setVm s.vm) m #[(.ref a), (.ref s')] below meth c s₁ [] 0 0 := Stand.of_body Bd
  have e0 : s₁.heap = h0 := by rw [← hh, Bd.state]; rfl
  have N0 := Fr.nil n0
  have hS : s.Since s.vm 0 := (State.WarmedH.refl s).since 0
  have hh0 := hh
  have hEL := own_EW hw
  have HC0 := CHr.refl hCH
  have lta := own_nlt (E.lt)
  refine go_of (A := s₁.setTop (entryFrame m #[(.ref a), (.ref s')] 2)) (B := s₁.setTop (mkF m 0 #[.val (.ref a), .val (.ref s')] [])) (fun _ kk' => castTop (ef_str_i1_0 m a s') kk') ?_
  refine go_of (B := (s₁.setTop (mkF m 4 #[.val (.ref a), .val (.ref s')] [(.ref s'), (.int (0 : Int32)), (.ref s'), (.ref a)]))) (fun _ kk => XS.aloadN X0.here hx rfl (hb hby d2_0) rfl rfl (XS.aloadN X0.here hx rfl (hb hby d2_1) rfl rfl (XS.iconst X0.here hx rfl (hb hby d2_2) (XS.aloadN X0.here hx rfl (hb hby d2_3) rfl rfl kk)))) ?_
  obtain ⟨cl1, Ar1, q1, Sz1, Nn1, Hh1, G1⟩ := id (Vs)
  have ln1 := len_of Sz1 Nn1
  refine go_of (B := (s₁.setTop (mkF m 5 #[.val (.ref a), .val (.ref s')] [(.int (0 : Int32)), (.int (0 : Int32)), (.ref s'), (.ref a)]))) (fun _ kk => X0.arraylength hx (by rw [e0]; exact Ar1.1) (State.isArrayOf_alike hZ.alike Ar1.2.1) (g := (mkF m 4 #[.val (.ref a), .val (.ref s')] [(.ref s'), (.int (0 : Int32)), (.ref s'), (.ref a)])) rfl rfl (hb hby d2_4) _ (by rw [ln1]; exact kk)) ?_
  refine go_of (B := (s₁.setTop (mkF m 6 #[.val (.ref a), .val (.ref s')] [.null, (.int (0 : Int32)), (.int (0 : Int32)), (.ref s'), (.ref a)]))) (fun _ kk => XS.aconstNull X0.here hx rfl (hb hby d2_5) kk) ?_
  obtain ⟨_, _, ⟨T2, L2, k2, n2⟩, -, X2', hS2', gr2, ⟨Lc2, hQ2, l2, y2, z2, HR2⟩, st2⟩ := X0.specialBackS hx (y := MN4) rfl hown (mvT hZ (wd 11 rfl)) (mvT hZ (wd 12 rfl)) (mvT hZ (wd 14 rfl)) (by decide) (backOfSH (W := 0) (str_i4_0 l Z a0 hw [] a s' u2 h0 n0 Z0 E F F2 g) hZ (wd 14 rfl) (wd 6 rfl) (by decide) (by decide) hEL HC0.1) (g := (mkF m 6 #[.val (.ref a), .val (.ref s')] [.null, (.int (0 : Int32)), (.int (0 : Int32)), (.ref s'), (.ref a)])) rfl (by rw [hml]; rfl) (Steps.refl _) (a := a) (argsL := [(.ref s'), (.int (0 : Int32)), (.int (0 : Int32)), .null]) (rest := []) (lenOf pd___CIILjava_lang_Void__V rfl) rfl (by show 2 * 0 + _ ≤ _; exact Nat.le_of_eq rfl) (hb hby d2_6) (fun _ _ => ⟨rfl, e0, (by decide : 0 + 4 ≤ _), (by decide : 0 + 8 ≤ _)⟩)
  dsimp only [Pt.U, Pt.locs, Pt.cells, Pt.slots] at X2' hS2' gr2 l2 y2 z2 st2 hQ2 HR2
  subst l2 y2 z2
  have X2 : Stand _ _ _ _ (s.setVm T2.vm) _ _ _ _ _ T2 _ _ _ := X2'
  have hS : s.Since T2.vm T2.heap.size := foldS hS (by rw [e0]; omega) hS2' gr2
  have hZ : Z.Warmed39 (s.setVm T2.vm).vm := State.Warmed39.trans (t := s.setVm s.vm) hZ hS2'.1
  have hown : (s.setVm T2.vm).vm.findClass "java/lang/String" = some m.cls := by rw [show (s.setVm T2.vm).vm = T2.vm from rfl, hS2'.1.alike.findClass]; exact hown
  obtain ⟨rfl, N2q, K2, S2⟩ := hQ2
  have N2 := Fr.app N0 N2q
  have sz2 := K2.1
  have HC2 := HC0.trans HR2
  refine go_tr (B := (T2.setTop (mkF m 9 #[.val (.ref a), .val (.ref s')] []))) (st2) ?_
  refine go_endH X2 hZ hEL HC2 hh0 rfl hS (by first | omega | exact own_ne (by omega) | exact own_le (by omega) | exact own_lt (by omega)) (v := none) (fun _ => rfl) Bd.notSynchronized (by decide) (by decide) (Q := (Q_str_i1_0 Z a s' u2 ks h0 n0)) ?_ (fun fs hr => X2.returnOut hx Bd.returns (hb hby d2_9) hr)
  unfold Q_str_i1_0
  exact ⟨rfl, N2, ((Keep.refl h0 [a]).trans K2 (allS (Or.inl (List.mem_of_getElem? (i := 0) rfl)) all0)), S2⟩
theorem d13_0 : decode jdk_52_method_21_code 0 = .ok (.iconst 0, 1) := by decide +kernel
theorem d13_1 : decode jdk_52_method_21_code 1 = .ok (.istore 5, 2) := by decide +kernel
theorem d13_3 : decode jdk_52_method_21_code 3 = .ok (.iload 5, 2) := by decide +kernel
theorem d13_5 : decode jdk_52_method_21_code 5 = .ok (.iload 4, 2) := by decide +kernel
theorem d13_7 : decode jdk_52_method_21_code 7 = .ok (.if_icmp .ge 37, 3) := by decide +kernel
theorem d13_10 : decode jdk_52_method_21_code 10 = .ok (.aload_n 0, 1) := by decide +kernel
theorem d13_11 : decode jdk_52_method_21_code 11 = .ok (.iload_n 1, 1) := by decide +kernel
theorem d13_12 : decode jdk_52_method_21_code 12 = .ok (.caload, 1) := by decide +kernel
theorem d13_13 : decode jdk_52_method_21_code 13 = .ok (.istore 6, 2) := by decide +kernel
theorem d13_15 : decode jdk_52_method_21_code 15 = .ok (.iload 6, 2) := by decide +kernel
theorem d13_17 : decode jdk_52_method_21_code 17 = .ok (.sipush 255, 3) := by decide +kernel
theorem d13_20 : decode jdk_52_method_21_code 20 = .ok (.if_icmp .le 6, 3) := by decide +kernel
theorem d13_26 : decode jdk_52_method_21_code 26 = .ok (.aload_n 2, 1) := by decide +kernel
theorem d13_27 : decode jdk_52_method_21_code 27 = .ok (.iload_n 3, 1) := by decide +kernel
theorem d13_28 : decode jdk_52_method_21_code 28 = .ok (.iload 6, 2) := by decide +kernel
theorem d13_30 : decode jdk_52_method_21_code 30 = .ok (.i2b, 1) := by decide +kernel
theorem d13_31 : decode jdk_52_method_21_code 31 = .ok (.bastore, 1) := by decide +kernel
theorem d13_32 : decode jdk_52_method_21_code 32 = .ok (.iinc 1 1, 3) := by decide +kernel
theorem d13_35 : decode jdk_52_method_21_code 35 = .ok (.iinc 3 1, 3) := by decide +kernel
theorem d13_38 : decode jdk_52_method_21_code 38 = .ok (.iinc 5 1, 3) := by decide +kernel
theorem d13_41 : decode jdk_52_method_21_code 41 = .ok (.goto (-38), 3) := by decide +kernel
theorem d13_44 : decode jdk_52_method_21_code 44 = .ok (.iload 4, 2) := by decide +kernel
theorem d13_46 : decode jdk_52_method_21_code 46 = .ok (.ireturn, 1) := by decide +kernel
def Q_str_c5_2 (Z : State) (s' : Addr) (d : Addr) (c0 : Int32) (c1 : Int32) (ks : ClassId) (kd : ClassId) (h0 : Heap) (n0 : Nat) (v : Option Value) (h : Heap) (L : List Loc) : Prop := v = some (.int 2) ∧ Fr n0 L ∧ Keep h0 h [d] ∧ Arv Z h d kd .byte 2 [(.int (own_b8 c0)), (.int (own_b8 c1))] (.int 0)
theorem pn_java_lang_StringUTF16 : plainName "java/lang/StringUTF16" = true := by first | (simp [plainName, overriddenIn]; done) | decide +kernel
theorem ef_str_c5_2 (m : MethodId) (s' : Addr) (d : Addr)  : entryFrame m #[(.ref s'), (.int (0 : Int32)), (.ref d), (.int (0 : Int32)), (.int (2 : Int32))] 7 = mkF m 0 #[.val (.ref s'), .val (.int (0 : Int32)), .val (.ref d), .val (.int (0 : Int32)), .val (.int (2 : Int32)), .unset, .unset] [] := by first | (simp [entryFrame, mkF, argsToLocals, Value.category]; done) | rfl
theorem str_c5_2 (l : Launch) (Z : State) (a0 : Array Value) (hw : TW a0 Z) (ws : List Jvm.Cond) (s' : Addr) (d : Addr) (c0 : Int32) (c1 : Int32) (ks : ClassId) (kd : ClassId) (h0 : Heap) (n0 : Nat) (Z0 : n0 ≤ h0.size) (Vs : Arv Z h0 s' ks .char 2 [(.int c0), (.int c1)] (.int 0)) (Vd : Arv Z h0 d kd .byte 2 [(.int 0), (.int 0)] (.int 0)) (nsd : s' ≠ d) (g : n0 ≤ d) (hc0 : ¬ c0 < 0 ∧ ¬ (255 : Int32) < c0) (hc1 : ¬ c1 < 0 ∧ ¬ (255 : Int32) < c1) :
    own_MF l Z (⟨"java/lang/StringUTF16", "compress", "([CI[BII)I"⟩ : MethodName) jdk_52_method_21_code 7 (some .int) ws (own_R 0 0 0 0) #[(.ref s'), (.int (0 : Int32)), (.ref d), (.int (0 : Int32)), (.int (2 : Int32))] h0 (Q_str_c5_2 Z s' d c0 c1 ks kd h0 n0) := by
  have wd := @own_wd _ _ hw
  refine MetFree.of_bodySF (plainFor_of_name pn_java_lang_StringUTF16) hisR ?_
  intro p e s m args below meth c s₁ Bd hml0 hP hK
  obtain ⟨rfl, hZ, hh⟩ := hP
  have hx := Bd.exec
  have hby := Bd.bytes
  have hml : c.maxLocals = 7 := hml0
  have hown : s.vm.findClass "java/lang/StringUTF16" = some m.cls := findClass_of_methodNamed Bd.named
  have hnm := (name_of_methodNamed Bd.named Bd.method).1
  have X0 : Stand p l e (own_R 0 0 0 0) s m #[(.ref s'), (.int (0 : Int32)), (.ref d), (.int (0 : Int32)), (.int (2 : Int32))] below meth c s₁ [] 0 0 := Stand.of_body Bd
  have e0 : s₁.heap = h0 := by rw [← hh, Bd.state]; rfl
  have N0 := Fr.nil n0
  have lts := own_nlt (Vs.lt)
  have ltd := own_nlt (Vd.lt)
  refine go_of (A := s₁.setTop (entryFrame m #[(.ref s'), (.int (0 : Int32)), (.ref d), (.int (0 : Int32)), (.int (2 : Int32))] 7)) (B := s₁.setTop (mkF m 0 #[.val (.ref s'), .val (.int (0 : Int32)), .val (.ref d), .val (.int (0 : Int32)), .val (.int (2 : Int32)), .unset, .unset] [])) (fun _ kk' => castTop (ef_str_c5_2 m s' d) kk') ?_
  refine go_of (B := (s₁.setTop (mkF m 11 #[.val (.ref s'), .val (.int (0 : Int32)), .val (.ref d), .val (.int (0 : Int32)), .val (.int (2 : Int32)), .val (.int (0 : Int32)), .unset] [(.ref s')]))) (fun _ kk => XS.iconst X0.here hx rfl (hb hby d13_0) (XS.istore X0.here hx rfl (hb hby d13_1) rfl rfl (XS.iload X0.here hx rfl (hb hby d13_3) rfl (XS.iload X0.here hx rfl (hb hby d13_5) rfl (XS.icmpNo X0.here hx rfl (hb hby d13_7) rfl (tlt (by decide : (0 : Int32) < (2 : Int32))).2.1 (XS.aloadN X0.here hx rfl (hb hby d13_10) rfl rfl kk)))))) ?_
  refine go_of (B := (s₁.setTop (mkF m 12 #[.val (.ref s'), .val (.int (0 : Int32)), .val (.ref d), .val (.int (0 : Int32)), .val (.int (2 : Int32)), .val (.int (0 : Int32)), .unset] [(.int (0 : Int32)), (.ref s')]))) (fun _ kk => XS.iloadN X0.here hx rfl (hb hby d13_11) rfl kk) ?_
  obtain ⟨cl1, Ar1, q1, Sz1, Nn1, Hh1, G1⟩ := id (Vs)
  refine go_of (B := (s₁.setTop (mkF m 27 #[.val (.ref s'), .val (.int (0 : Int32)), .val (.ref d), .val (.int (0 : Int32)), .val (.int (2 : Int32)), .val (.int (0 : Int32)), .val (.int c0)] [(.ref d)]))) (fun _ kk => X0.caload hx (j := (0 : Int32)) (v := (.int c0)) (by rw [e0]; exact Ar1.1) (State.isArrayOf_alike hZ.alike Ar1.2.1) Ar1.2.2 (inb_of Sz1 ⟨by decide, by decide⟩) (Hh1.at (inb_of Sz1 ⟨by decide, by decide⟩) rfl) (g := (mkF m 12 #[.val (.ref s'), .val (.int (0 : Int32)), .val (.ref d), .val (.int (0 : Int32)), .val (.int (2 : Int32)), .val (.int (0 : Int32)), .unset] [(.int (0 : Int32)), (.ref s')])) rfl rfl (hb hby d13_12) _ (XS.istore X0.here hx rfl (hb hby d13_13) rfl rfl (XS.iload X0.here hx rfl (hb hby d13_15) rfl (XS.sipush X0.here hx rfl (hb hby d13_17) (XS.icmpYes X0.here hx rfl (pc0 := 20) (pc' := 26) rfl (hb hby d13_20) rfl (flt hc0.2).2.2.2 (by decide) (by decide) (XS.aloadN X0.here hx rfl (hb hby d13_26) rfl rfl kk)))))) ?_
  refine go_of (B := (s₁.setTop (mkF m 31 #[.val (.ref s'), .val (.int (0 : Int32)), .val (.ref d), .val (.int (0 : Int32)), .val (.int (2 : Int32)), .val (.int (0 : Int32)), .val (.int c0)] [(.int (c0.toInt8.toInt32)), (.int (0 : Int32)), (.ref d)]))) (fun _ kk => XS.iloadN X0.here hx rfl (hb hby d13_27) rfl (XS.iload X0.here hx rfl (hb hby d13_28) rfl (XS.i2b X0.here hx rfl (hb hby d13_30) rfl kk))) ?_
  obtain ⟨cl2, Ar2, q2, Sz2, Nn2, Hh2, G2⟩ := id (Vd)
  obtain ⟨T3, h3, X3, e3, W3, st3⟩ := stB X0 hx hZ e0 Ar2 (j := (0 : Int32)) (inb_of Sz2 ⟨by decide, by decide⟩) (g := (mkF m 31 #[.val (.ref s'), .val (.int (0 : Int32)), .val (.ref d), .val (.int (0 : Int32)), .val (.int (2 : Int32)), .val (.int (0 : Int32)), .val (.int c0)] [(.int (c0.toInt8.toInt32)), (.int (0 : Int32)), (.ref d)])) rfl rfl (hb hby d13_31)
  have sz3 := W3.size
  have N3 := Fr.snoc X3 N0 (g : n0 ≤ d)
  have V3 : Arv Z h3 d kd .byte (2 : Int32) [(.int ((c0.toInt8.toInt32).toInt8.toInt32)), (.int (0 : Int32))] (.int (0 : Int32)) := Arv.set Ar2 q2 Sz2 Nn2 Hh2 G2 (fits_nar_byte _) W3 0 rfl (Nat.le_of_ble_eq_true rfl)
  rw [own_bb] at V3
  refine go_of (B := (T3.setTop (mkF m 32 #[.val (.ref s'), .val (.int (0 : Int32)), .val (.ref d), .val (.int (0 : Int32)), .val (.int (2 : Int32)), .val (.int (0 : Int32)), .val (.int c0)] []))) (st3) ?_
  refine go_of (B := (T3.setTop (mkF m 7 #[.val (.ref s'), .val (.int (1 : Int32)), .val (.ref d), .val (.int (1 : Int32)), .val (.int (2 : Int32)), .val (.int (1 : Int32)), .val (.int c0)] [(.int (2 : Int32)), (.int (1 : Int32))]))) (fun _ kk => XS.iinc X3.here hx rfl (hb hby d13_32) rfl rfl (XS.iinc X3.here hx rfl (hb hby d13_35) rfl rfl (XS.iinc X3.here hx rfl (hb hby d13_38) rfl rfl (XS.goto X3.here hx rfl (pc0 := 41) (pc' := 3) rfl (hb hby d13_41) (by decide) (by decide) (XS.iload X3.here hx rfl (hb hby d13_3) rfl (XS.iload X3.here hx rfl (hb hby d13_5) rfl kk)))))) ?_
  refine go_of (B := (T3.setTop (mkF m 12 #[.val (.ref s'), .val (.int (1 : Int32)), .val (.ref d), .val (.int (1 : Int32)), .val (.int (2 : Int32)), .val (.int (1 : Int32)), .val (.int c0)] [(.int (1 : Int32)), (.ref s')]))) (fun _ kk => XS.icmpNo X3.here hx rfl (hb hby d13_7) rfl (tlt (by decide : (1 : Int32) < (2 : Int32))).2.1 (XS.aloadN X3.here hx rfl (hb hby d13_10) rfl rfl (XS.iloadN X3.here hx rfl (hb hby d13_11) rfl kk))) ?_
  have cf_4 := (Vs.other W3 (by first | omega | exact own_ne (by omega) | exact own_le (by omega) | exact own_lt (by omega)))
  obtain ⟨cl5, Ar5, q5, Sz5, Nn5, Hh5, G5⟩ := id (cf_4)
  refine go_of (B := (T3.setTop (mkF m 27 #[.val (.ref s'), .val (.int (1 : Int32)), .val (.ref d), .val (.int (1 : Int32)), .val (.int (2 : Int32)), .val (.int (1 : Int32)), .val (.int c1)] [(.ref d)]))) (fun _ kk => X3.caload hx (j := (1 : Int32)) (v := (.int c1)) (by rw [e3]; exact Ar5.1) (State.isArrayOf_alike hZ.alike Ar5.2.1) Ar5.2.2 (inb_of Sz5 ⟨by decide, by decide⟩) (Hh5.at (inb_of Sz5 ⟨by decide, by decide⟩) rfl) (g := (mkF m 12 #[.val (.ref s'), .val (.int (1 : Int32)), .val (.ref d), .val (.int (1 : Int32)), .val (.int (2 : Int32)), .val (.int (1 : Int32)), .val (.int c0)] [(.int (1 : Int32)), (.ref s')])) rfl rfl (hb hby d13_12) _ (XS.istore X3.here hx rfl (hb hby d13_13) rfl rfl (XS.iload X3.here hx rfl (hb hby d13_15) rfl (XS.sipush X3.here hx rfl (hb hby d13_17) (XS.icmpYes X3.here hx rfl (pc0 := 20) (pc' := 26) rfl (hb hby d13_20) rfl (flt hc1.2).2.2.2 (by decide) (by decide) (XS.aloadN X3.here hx rfl (hb hby d13_26) rfl rfl kk)))))) ?_
  refine go_of (B := (T3.setTop (mkF m 31 #[.val (.ref s'), .val (.int (1 : Int32)), .val (.ref d), .val (.int (1 : Int32)), .val (.int (2 : Int32)), .val (.int (1 : Int32)), .val (.int c1)] [(.int (c1.toInt8.toInt32)), (.int (1 : Int32)), (.ref d)]))) (fun _ kk => XS.iloadN X3.here hx rfl (hb hby d13_27) rfl (XS.iload X3.here hx rfl (hb hby d13_28) rfl (XS.i2b X3.here hx rfl (hb hby d13_30) rfl kk))) ?_
  obtain ⟨cl6, Ar6, q6, Sz6, Nn6, Hh6, G6⟩ := id (V3)
  obtain ⟨T7, h7, X7, e7, W7, st7⟩ := stB X3 hx hZ e3 Ar6 (j := (1 : Int32)) (inb_of Sz6 ⟨by decide, by decide⟩) (g := (mkF m 31 #[.val (.ref s'), .val (.int (1 : Int32)), .val (.ref d), .val (.int (1 : Int32)), .val (.int (2 : Int32)), .val (.int (1 : Int32)), .val (.int c1)] [(.int (c1.toInt8.toInt32)), (.int (1 : Int32)), (.ref d)])) rfl rfl (hb hby d13_31)
  have sz7 := W7.size
  have N7 := Fr.snoc X7 N3 (g : n0 ≤ d)
  have V7 : Arv Z h7 d kd .byte (2 : Int32) [(.int (c0.toInt8.toInt32)), (.int ((c1.toInt8.toInt32).toInt8.toInt32))] (.int (0 : Int32)) := Arv.set Ar6 q6 Sz6 Nn6 Hh6 G6 (fits_nar_byte _) W7 1 rfl (Nat.le_of_ble_eq_true rfl)
  rw [own_bb] at V7
  refine go_of (B := (T7.setTop (mkF m 32 #[.val (.ref s'), .val (.int (1 : Int32)), .val (.ref d), .val (.int (1 : Int32)), .val (.int (2 : Int32)), .val (.int (1 : Int32)), .val (.int c1)] []))) (st7) ?_
  refine go_of (B := (T7.setTop (mkF m 7 #[.val (.ref s'), .val (.int (2 : Int32)), .val (.ref d), .val (.int (2 : Int32)), .val (.int (2 : Int32)), .val (.int (2 : Int32)), .val (.int c1)] [(.int (2 : Int32)), (.int (2 : Int32))]))) (fun _ kk => XS.iinc X7.here hx rfl (hb hby d13_32) rfl rfl (XS.iinc X7.here hx rfl (hb hby d13_35) rfl rfl (XS.iinc X7.here hx rfl (hb hby d13_38) rfl rfl (XS.goto X7.here hx rfl (pc0 := 41) (pc' := 3) rfl (hb hby d13_41) (by decide) (by decide) (XS.iload X7.here hx rfl (hb hby d13_3) rfl (XS.iload X7.here hx rfl (hb hby d13_5) rfl kk)))))) ?_
  refine go_of (B := (T7.setTop (mkF m 46 #[.val (.ref s'), .val (.int (2 : Int32)), .val (.ref d), .val (.int (2 : Int32)), .val (.int (2 : Int32)), .val (.int (2 : Int32)), .val (.int c1)] [(.int (2 : Int32))]))) (fun _ kk => XS.icmpYes X7.here hx rfl (pc0 := 7) (pc' := 44) rfl (hb hby d13_7) rfl (flt (by decide : ¬ ((2 : Int32) < (2 : Int32)))).2.1 (by decide) (by decide) (XS.iload X7.here hx rfl (hb hby d13_44) rfl kk)) ?_
  refine go_end X7 (v := some (.int (2 : Int32))) (fun h => by rw [Bd.returns] at h; cases h) Bd.notSynchronized (by decide) (by decide) (Q := (Q_str_c5_2 Z s' d c0 c1 ks kd h0 n0)) ?_ (fun fs hr => own_retI X7 hx Bd.returns (hb hby d13_46) hr)
  unfold Q_str_c5_2
  try rw [e7]
  exact ⟨rfl, N7, (((Keep.refl h0 [d]).wr W3 (Or.inl (List.mem_of_getElem? (i := 0) rfl))).wr W7 (Or.inl (List.mem_of_getElem? (i := 0) rfl))), V7⟩
theorem d12_0 : decode jdk_52_method_16_code 0 = .ok (.iload_n 2, 1) := by decide +kernel
theorem d12_1 : decode jdk_52_method_16_code 1 = .ok (.newarray .byte, 2) := by decide +kernel
theorem d12_3 : decode jdk_52_method_16_code 3 = .ok (.astore_n 3, 1) := by decide +kernel
theorem d12_4 : decode jdk_52_method_16_code 4 = .ok (.aload_n 0, 1) := by decide +kernel
theorem d12_5 : decode jdk_52_method_16_code 5 = .ok (.iload_n 1, 1) := by decide +kernel
theorem d12_6 : decode jdk_52_method_16_code 6 = .ok (.aload_n 3, 1) := by decide +kernel
theorem d12_7 : decode jdk_52_method_16_code 7 = .ok (.iconst 0, 1) := by decide +kernel
theorem d12_8 : decode jdk_52_method_16_code 8 = .ok (.iload_n 2, 1) := by decide +kernel
theorem d12_9 : decode jdk_52_method_16_code 9 = .ok (.invokestatic 115, 3) := by decide +kernel
theorem pd___CI_BII_I : parseMethodDescriptor "([CI[BII)I" = some ⟨[(.array .char), .int, (.array .byte), .int, .int], some .int⟩ := by decide +kernel
theorem d12_12 : decode jdk_52_method_16_code 12 = .ok (.istore 4, 2) := by decide +kernel
theorem d12_14 : decode jdk_52_method_16_code 14 = .ok (.iload 4, 2) := by decide +kernel
theorem d12_16 : decode jdk_52_method_16_code 16 = .ok (.iload_n 2, 1) := by decide +kernel
theorem d12_17 : decode jdk_52_method_16_code 17 = .ok (.if_icmp .eq 40, 3) := by decide +kernel
theorem d12_57 : decode jdk_52_method_16_code 57 = .ok (.aload_n 3, 1) := by decide +kernel
theorem d12_58 : decode jdk_52_method_16_code 58 = .ok (.areturn, 1) := by decide +kernel
def Q_str_c3_2 (Z : State) (s' : Addr) (c0 : Int32) (c1 : Int32) (ks : ClassId) (h0 : Heap) (n0 : Nat) (v : Option Value) (h : Heap) (L : List Loc) : Prop := ∃ (t : Addr) (k : ClassId), v = some (.ref t) ∧ Fr n0 L ∧ h0.size ≤ t ∧ Keep h0 h [] ∧ Arv Z h t k .byte 2 [(.int (own_b8 c0)), (.int (own_b8 c1))] (.int 0)
theorem ef_str_c3_2 (m : MethodId) (s' : Addr)  : entryFrame m #[(.ref s'), (.int (0 : Int32)), (.int (2 : Int32))] 6 = mkF m 0 #[.val (.ref s'), .val (.int (0 : Int32)), .val (.int (2 : Int32)), .unset, .unset, .unset] [] := by first | (simp [entryFrame, mkF, argsToLocals, Value.category]; done) | rfl
theorem str_c3_2 (l : Launch) (Z : State) (a0 : Array Value) (hw : TW a0 Z) (ws : List Jvm.Cond) (s' : Addr) (c0 : Int32) (c1 : Int32) (ks : ClassId) (h0 : Heap) (n0 : Nat) (Z0 : n0 ≤ h0.size) (Vs : Arv Z h0 s' ks .char 2 [(.int c0), (.int c1)] (.int 0)) (hc0 : ¬ c0 < 0 ∧ ¬ (255 : Int32) < c0) (hc1 : ¬ c1 < 0 ∧ ¬ (255 : Int32) < c1) :
    own_MF l Z (⟨"java/lang/StringUTF16", "compress", "([CII)[B"⟩ : MethodName) jdk_52_method_16_code 6 (some (.array .byte)) ws (own_R 1 1 2 18) #[(.ref s'), (.int (0 : Int32)), (.int (2 : Int32))] h0 (Q_str_c3_2 Z s' c0 c1 ks h0 n0) := by
  have wd := @own_wd _ _ hw
  refine MetFree.of_bodySF (plainFor_of_name pn_java_lang_StringUTF16) hisR ?_
  intro p e s m args below meth c s₁ Bd hml0 hP hK
  obtain ⟨rfl, hZ, hh⟩ := hP
  have hx := Bd.exec
  have hby := Bd.bytes
  have hml : c.maxLocals = 6 := hml0
  have hown : s.vm.findClass "java/lang/StringUTF16" = some m.cls := findClass_of_methodNamed Bd.named
  have hnm := (name_of_methodNamed Bd.named Bd.method).1
  have X0 : Stand p l e (own_R 1 1 2 18) s m #[(.ref s'), (.int (0 : Int32)), (.int (2 : Int32))] below meth c s₁ [] 0 0 := Stand.of_body Bd
  have e0 : s₁.heap = h0 := by rw [← hh, Bd.state]; rfl
  have N0 := Fr.nil n0
  have lts := own_nlt (Vs.lt)
  refine go_of (A := s₁.setTop (entryFrame m #[(.ref s'), (.int (0 : Int32)), (.int (2 : Int32))] 6)) (B := s₁.setTop (mkF m 0 #[.val (.ref s'), .val (.int (0 : Int32)), .val (.int (2 : Int32)), .unset, .unset, .unset] [])) (fun _ kk' => castTop (ef_str_c3_2 m s') kk') ?_
  refine go_of (B := (s₁.setTop (mkF m 1 #[.val (.ref s'), .val (.int (0 : Int32)), .val (.int (2 : Int32)), .unset, .unset, .unset] [(.int (2 : Int32))]))) (fun _ kk => XS.iloadN X0.here hx rfl (hb hby d12_0) rfl kk) ?_
  obtain ⟨T1, h1, k1, X1, e1, E1, A1, st1⟩ := newP X0 hx hZ (wd 19 rfl) e0 (g := (mkF m 1 #[.val (.ref s'), .val (.int (0 : Int32)), .val (.int (2 : Int32)), .unset, .unset, .unset] [(.int (2 : Int32))])) rfl (hb hby d12_1) rfl (by decide) (cap := 2) (by decide) (by decide) (by decide) (by decide)
  obtain ⟨b1, g1⟩ : ∃ z, z = h0.size := ⟨_, rfl⟩
  rw [← g1] at A1 st1
  have hi1 := own_nlt A1.lt
  have sz1 := E1.1
  have V1 : Arv Z h1 b1 k1 .byte (2 : Int32) [(.int (0 : Int32)), (.int (0 : Int32))] (.int (0 : Int32)) := (Arv.new A1 (by decide)).pad (pad_rep [] (.int (0 : Int32)) 2)
  refine go_of (B := (T1.setTop (mkF m 3 #[.val (.ref s'), .val (.int (0 : Int32)), .val (.int (2 : Int32)), .unset, .unset, .unset] [(.ref b1)]))) (st1) ?_
  refine go_of (B := (T1.setTop (mkF m 9 #[.val (.ref s'), .val (.int (0 : Int32)), .val (.int (2 : Int32)), .val (.ref b1), .unset, .unset] [(.int (2 : Int32)), (.int (0 : Int32)), (.ref b1), (.int (0 : Int32)), (.ref s')]))) (fun _ kk => XS.astoreN X1.here hx rfl (hb hby d12_3) rfl rfl rfl (XS.aloadN X1.here hx rfl (hb hby d12_4) rfl rfl (XS.iloadN X1.here hx rfl (hb hby d12_5) rfl (XS.aloadN X1.here hx rfl (hb hby d12_6) rfl rfl (XS.iconst X1.here hx rfl (hb hby d12_7) (XS.iloadN X1.here hx rfl (hb hby d12_8) rfl kk)))))) ?_
  have cf_2 := (Vs.ext E1)
  obtain ⟨_, _, ⟨T3, L3, k3, n3⟩, -, X3, ⟨Lc3, hQ3, l3, y3, z3⟩, st3⟩ := Jvm.LawKit.callS X1 hx (y := (⟨"java/lang/StringUTF16", "compress", "([CI[BII)I"⟩ : MethodName)) hown (mvT hZ (wd 68 rfl)) (mvT hZ (wd 69 rfl)) (mvT hZ (wd 66 rfl)) (mvT hZ (wd 70 rfl)) (by decide) (backOf (W := 0) (str_c5_2 l Z a0 hw [] s' b1 c0 c1 ks k1 h1 n0 (by first | omega | exact own_ne (by omega) | exact own_le (by omega) | exact own_lt (by omega)) cf_2 V1 (by first | omega | exact own_ne (by omega) | exact own_le (by omega) | exact own_lt (by omega)) (by first | omega | exact own_ne (by omega) | exact own_le (by omega) | exact own_lt (by omega)) hc0 hc1) hZ (wd 70 rfl) (wd 66 rfl) (by decide) (by decide)) (g := (mkF m 9 #[.val (.ref s'), .val (.int (0 : Int32)), .val (.int (2 : Int32)), .val (.ref b1), .unset, .unset] [(.int (2 : Int32)), (.int (0 : Int32)), (.ref b1), (.int (0 : Int32)), (.ref s')])) rfl (by rw [hml]; rfl) (argsL := [(.ref s'), (.int (0 : Int32)), (.ref b1), (.int (0 : Int32)), (.int (2 : Int32))]) (rest := []) (lenOf pd___CI_BII_I rfl) rfl (by show 2 * 0 + _ ≤ _; exact Nat.le_of_eq rfl) (hb hby d12_9) (fun _ _ => ⟨rfl, e1, (by decide : 1 + 0 ≤ _), (by decide : 2 + 0 ≤ _)⟩)
  dsimp only [Pt.U, Pt.locs, Pt.cells, Pt.slots] at X3 l3 y3 z3 st3 hQ3
  subst l3 y3 z3
  obtain ⟨rfl, N3q, K3, V3⟩ := hQ3
  have N3 := Fr.app N0 N3q
  have sz3 := K3.1
  refine go_of (B := (T3.setTop (mkF m 12 #[.val (.ref s'), .val (.int (0 : Int32)), .val (.int (2 : Int32)), .val (.ref b1), .unset, .unset] [(.int (2 : Int32))]))) (st3) ?_
  refine go_of (B := (T3.setTop (mkF m 58 #[.val (.ref s'), .val (.int (0 : Int32)), .val (.int (2 : Int32)), .val (.ref b1), .val (.int (2 : Int32)), .unset] [(.ref b1)]))) (fun _ kk => XS.istore X3.here hx rfl (hb hby d12_12) rfl rfl (XS.iload X3.here hx rfl (hb hby d12_14) rfl (XS.iloadN X3.here hx rfl (hb hby d12_16) rfl (XS.icmpYes X3.here hx rfl (pc0 := 17) (pc' := 57) rfl (hb hby d12_17) rfl (teq (by decide : (2 : Int32) = (2 : Int32))).1 (by decide) (by decide) (XS.aloadN X3.here hx rfl (hb hby d12_57) rfl rfl kk))))) ?_
  refine go_end X3 (v := some (.ref b1)) (fun h => by rw [Bd.returns] at h; cases h) Bd.notSynchronized (by decide) (by decide) (Q := (Q_str_c3_2 Z s' c0 c1 ks h0 n0)) ?_ (fun fs hr => own_retA X3 hx Bd.returns rfl rfl (hb hby d12_58) hr)
  unfold Q_str_c3_2
  exact ⟨b1, k1, rfl, N3, by omega, (((Keep.refl h0 []).ext E1).trans K3 (allS (Or.inr (by first | omega | exact own_ne (by omega) | exact own_le (by omega) | exact own_lt (by omega))) all0)), V3⟩
theorem d14_0 : decode jdk_52_method_15_code 0 = .ok (.iload_n 1, 1) := by decide +kernel
theorem d14_1 : decode jdk_52_method_15_code 1 = .ok (.aload_n 0, 1) := by decide +kernel
theorem d14_2 : decode jdk_52_method_15_code 2 = .ok (.arraylength, 1) := by decide +kernel
theorem d14_3 : decode jdk_52_method_15_code 3 = .ok (.isub, 1) := by decide +kernel
theorem d14_4 : decode jdk_52_method_15_code 4 = .ok (.bipush 31, 2) := by decide +kernel
theorem d14_6 : decode jdk_52_method_15_code 6 = .ok (.iushr, 1) := by decide +kernel
theorem d14_7 : decode jdk_52_method_15_code 7 = .ok (.i2b, 1) := by decide +kernel
theorem d14_8 : decode jdk_52_method_15_code 8 = .ok (.ireturn, 1) := by decide +kernel
def Q_str_cf_2 (Z : State) (t : Addr) (k : ClassId) (vs : List Value) (h0 : Heap) (n0 : Nat) (v : Option Value) (h : Heap) (L : List Loc) : Prop := v = some (.int 0) ∧ Fr n0 L ∧ h = h0
theorem ef_str_cf_2 (m : MethodId) (t : Addr)  : entryFrame m #[(.ref t), (.int (2 : Int32))] 2 = mkF m 0 #[.val (.ref t), .val (.int (2 : Int32))] [] := by first | (simp [entryFrame, mkF, argsToLocals, Value.category]; done) | rfl
theorem str_cf_2 (l : Launch) (Z : State) (a0 : Array Value) (hw : TW a0 Z) (ws : List Jvm.Cond) (t : Addr) (k : ClassId) (vs : List Value) (h0 : Heap) (n0 : Nat) (Z0 : n0 ≤ h0.size) (V : Arv Z h0 t k .byte 2 vs (.int 0)) :
    own_MF l Z (⟨"java/lang/StringUTF16", "coderFromArrayLen", "([BI)B"⟩ : MethodName) jdk_52_method_15_code 2 (some .byte) ws (own_R 0 0 0 0) #[(.ref t), (.int (2 : Int32))] h0 (Q_str_cf_2 Z t k vs h0 n0) := by
  have wd := @own_wd _ _ hw
  refine MetFree.of_bodySF (plainFor_of_name pn_java_lang_StringUTF16) hisR ?_
  intro p e s m args below meth c s₁ Bd hml0 hP hK
  obtain ⟨rfl, hZ, hh⟩ := hP
  have hx := Bd.exec
  have hby := Bd.bytes
  have hml : c.maxLocals = 2 := hml0
  have hown : s.vm.findClass "java/lang/StringUTF16" = some m.cls := findClass_of_methodNamed Bd.named
  have hnm := (name_of_methodNamed Bd.named Bd.method).1
  have X0 : Stand p l e (own_R 0 0 0 0) s m #[(.ref t), (.int (2 : Int32))] below meth c s₁ [] 0 0 := Stand.of_body Bd
  have e0 : s₁.heap = h0 := by rw [← hh, Bd.state]; rfl
  have N0 := Fr.nil n0
  refine go_of (A := s₁.setTop (entryFrame m #[(.ref t), (.int (2 : Int32))] 2)) (B := s₁.setTop (mkF m 0 #[.val (.ref t), .val (.int (2 : Int32))] [])) (fun _ kk' => castTop (ef_str_cf_2 m t) kk') ?_
  refine go_of (B := (s₁.setTop (mkF m 2 #[.val (.ref t), .val (.int (2 : Int32))] [(.ref t), (.int (2 : Int32))]))) (fun _ kk => XS.iloadN X0.here hx rfl (hb hby d14_0) rfl (XS.aloadN X0.here hx rfl (hb hby d14_1) rfl rfl kk)) ?_
  obtain ⟨cl1, Ar1, q1, Sz1, Nn1, Hh1, G1⟩ := id (V)
  have ln1 := len_of Sz1 Nn1
  refine go_of (B := (s₁.setTop (mkF m 3 #[.val (.ref t), .val (.int (2 : Int32))] [(.int (2 : Int32)), (.int (2 : Int32))]))) (fun _ kk => X0.arraylength hx (by rw [e0]; exact Ar1.1) (State.isArrayOf_alike hZ.alike Ar1.2.1) (g := (mkF m 2 #[.val (.ref t), .val (.int (2 : Int32))] [(.ref t), (.int (2 : Int32))])) rfl rfl (hb hby d14_2) _ (by rw [ln1]; exact kk)) ?_
  refine go_of (B := (s₁.setTop (mkF m 8 #[.val (.ref t), .val (.int (2 : Int32))] [(.int (0 : Int32))]))) (fun _ kk => XS.isub X0.here hx rfl (hb hby d14_3) rfl (XS.bipush X0.here hx rfl (hb hby d14_4) (XS.iushr X0.here hx rfl (hb hby d14_6) rfl (XS.i2b X0.here hx rfl (hb hby d14_7) rfl kk)))) ?_
  refine go_end X0 (v := some (.int (nar .byte (0 : Int32)))) (fun h => by rw [Bd.returns] at h; cases h) Bd.notSynchronized (by decide) (by decide) (Q := (Q_str_cf_2 Z t k vs h0 n0)) ?_ (fun fs hr => retN X0 hx (t := .byte) Bd.returns (by simp) (hb hby d14_8) hr)
  unfold Q_str_cf_2
  try rw [e0]
  exact ⟨rfl, N0, rfl⟩
theorem d3_27 : decode jdk_42_method_149_code 27 = .ok (.getstatic 38, 3) := by decide +kernel
theorem d3_30 : decode jdk_42_method_149_code 30 = .ok (.ifCond .eq 28, 3) := by decide +kernel
theorem d3_33 : decode jdk_42_method_149_code 33 = .ok (.aload_n 1, 1) := by decide +kernel
theorem d3_34 : decode jdk_42_method_149_code 34 = .ok (.iload_n 2, 1) := by decide +kernel
theorem d3_35 : decode jdk_42_method_149_code 35 = .ok (.iload_n 3, 1) := by decide +kernel
theorem d3_36 : decode jdk_42_method_149_code 36 = .ok (.invokestatic 177, 3) := by decide +kernel
theorem pd___CII__B : parseMethodDescriptor "([CII)[B" = some ⟨[(.array .char), .int, .int], some (.array .byte)⟩ := by decide +kernel
theorem d3_39 : decode jdk_42_method_149_code 39 = .ok (.astore 5, 2) := by decide +kernel
theorem d3_41 : decode jdk_42_method_149_code 41 = .ok (.aload_n 0, 1) := by decide +kernel
theorem d3_42 : decode jdk_42_method_149_code 42 = .ok (.aload 5, 2) := by decide +kernel
theorem d3_44 : decode jdk_42_method_149_code 44 = .ok (.iload_n 3, 1) := by decide +kernel
theorem d3_45 : decode jdk_42_method_149_code 45 = .ok (.invokestatic 47, 3) := by decide +kernel
theorem pd___BI_B : parseMethodDescriptor "([BI)B" = some ⟨[(.array .byte), .int], some .byte⟩ := by decide +kernel
theorem d3_48 : decode jdk_42_method_149_code 48 = .ok (.putfield 15, 3) := by decide +kernel
theorem d3_51 : decode jdk_42_method_149_code 51 = .ok (.aload_n 0, 1) := by decide +kernel
theorem d3_52 : decode jdk_42_method_149_code 52 = .ok (.aload 5, 2) := by decide +kernel
theorem d3_54 : decode jdk_42_method_149_code 54 = .ok (.putfield 9, 3) := by decide +kernel
theorem d3_57 : decode jdk_42_method_149_code 57 = .ok (.return_, 1) := by decide +kernel
def Q_str_i4_2 (Z : State) (a : Addr) (s' : Addr) (c0 : Int32) (c1 : Int32) (ks : ClassId) (gC : Int32) (u : Value) (u2 : Value) (h0 : Heap) (n0 : Nat) (v : Option Value) (h : Heap) (L : List Loc) : Prop := v = none ∧ Fr n0 L ∧ Keep h0 h [a] ∧ Str Z h a 2 [c0, c1]
theorem ef_str_i4_2 (m : MethodId) (a : Addr) (s' : Addr)  : entryFrame m #[(.ref a), (.ref s'), (.int (0 : Int32)), (.int (2 : Int32)), .null] 6 = mkF m 0 #[.val (.ref a), .val (.ref s'), .val (.int (0 : Int32)), .val (.int (2 : Int32)), .val .null, .unset] [] := by first | (simp [entryFrame, mkF, argsToLocals, Value.category]; done) | rfl
theorem str_i4_2 (l : Launch) (Z : State) (a0 : Array Value) (hw : TW a0 Z) (ws : List Jvm.Cond) (a : Addr) (s' : Addr) (c0 : Int32) (c1 : Int32) (ks : ClassId) (gC : Int32) (u : Value) (u2 : Value) (h0 : Heap) (n0 : Nat) (Z0 : n0 ≤ h0.size) (O : Old Z n0 h0) (SC : Sta Z Z.heap "java/lang/String" "COMPACT_STRINGS" "Z" (.int gC)) (hgC : ¬ gC = (0 : Int32)) (E : Exa Z h0 a "java/lang/String") (F : Fld Z h0 a "java/lang/String" "value" "[B" u) (F2 : Fld Z h0 a "java/lang/String" "coder" "B" u2) (g : n0 ≤ a) (Vs : Arv Z h0 s' ks .char 2 [(.int c0), (.int c1)] (.int 0)) (hc0 : ¬ c0 < 0 ∧ ¬ (255 : Int32) < c0) (hc1 : ¬ c1 < 0 ∧ ¬ (255 : Int32) < c1) :
    own_MF l Z MN4 jdk_42_method_149_code 6 none ws (own_R 2 1 2 35) #[(.ref a), (.ref s'), (.int (0 : Int32)), (.int (2 : Int32)), .null] h0 (Q_str_i4_2 Z a s' c0 c1 ks gC u u2 h0 n0) := by
  have wd := @own_wd _ _ hw
  refine MetFree.of_bodySF (plainFor_of_name pn_java_lang_String) hisR ?_
  intro p e s m args below meth c s₁ Bd hml0 hP hK
  obtain ⟨rfl, hZ, hh⟩ := hP
  have hx := Bd.exec
  have hby := Bd.bytes
  have hml : c.maxLocals = 6 := hml0
  have hown : s.vm.findClass "java/lang/String" = some m.cls := findClass_of_methodNamed Bd.named
  have hnm := (name_of_methodNamed Bd.named Bd.method).1
  have X0 : Stand p l e (own_R 2 1 2 35) s m #[(.ref a), (.ref s'), (.int (0 : Int32)), (.int (2 : Int32)), .null] below meth c s₁ [] 0 0 := Stand.of_body Bd
  have e0 : s₁.heap = h0 := by rw [← hh, Bd.state]; rfl
  have N0 := Fr.nil n0
  have lta := own_nlt (E.lt)
  have lts := own_nlt (Vs.lt)
  refine go_of (A := s₁.setTop (entryFrame m #[(.ref a), (.ref s'), (.int (0 : Int32)), (.int (2 : Int32)), .null] 6)) (B := s₁.setTop (mkF m 0 #[.val (.ref a), .val (.ref s'), .val (.int (0 : Int32)), .val (.int (2 : Int32)), .val .null, .unset] [])) (fun _ kk' => castTop (ef_str_i4_2 m a s') kk') ?_
  refine go_of (B := (s₁.setTop (mkF m 1 #[.val (.ref a), .val (.ref s'), .val (.int (0 : Int32)), .val (.int (2 : Int32)), .val .null, .unset] [(.ref a)]))) (fun _ kk => XS.aloadN X0.here hx rfl (hb hby d3_0) rfl rfl kk) ?_
  obtain ⟨T1, X1, e1, st1⟩ := initO X0 hx hZ hown (wd 15 rfl) (wd 16 rfl) (wd 17 rfl) e0 (g := (mkF m 1 #[.val (.ref a), .val (.ref s'), .val (.int (0 : Int32)), .val (.int (2 : Int32)), .val .null, .unset] [(.ref a)])) rfl (by rw [hml]; rfl) rfl (hb hby d3_1) (by decide) (W := 0) (by show 2 * 0 + _ ≤ _; exact Nat.le_of_eq rfl) (by decide)
  refine go_of (B := (T1.setTop (mkF m 4 #[.val (.ref a), .val (.ref s'), .val (.int (0 : Int32)), .val (.int (2 : Int32)), .val .null, .unset] []))) (st1) ?_
  refine go_of (B := (T1.setTop (mkF m 27 #[.val (.ref a), .val (.ref s'), .val (.int (0 : Int32)), .val (.int (2 : Int32)), .val .null, .unset] []))) (fun _ kk => XS.iloadN X1.here hx rfl (hb hby d3_4) rfl (XS.ifYes X1.here hx rfl (pc0 := 5) (pc' := 27) rfl (hb hby d3_5) rfl ((if0 _ _).trans (feq (by decide : ¬ ((2 : Int32) = (0 : Int32)))).2) (by decide) (by decide) kk)) ?_
  obtain ⟨T2, X2, e2, st2⟩ := getS2 X1 hx hZ hown (host := "") (Or.inl (wd 52 rfl)) Via.refl e1 (SC.ext O.2) (g := (mkF m 27 #[.val (.ref a), .val (.ref s'), .val (.int (0 : Int32)), .val (.int (2 : Int32)), .val .null, .unset] [])) rfl (hb hby d3_27)
  refine go_of (B := (T2.setTop (mkF m 30 #[.val (.ref a), .val (.ref s'), .val (.int (0 : Int32)), .val (.int (2 : Int32)), .val .null, .unset] [(.int gC)]))) (st2) ?_
  refine go_of (B := (T2.setTop (mkF m 36 #[.val (.ref a), .val (.ref s'), .val (.int (0 : Int32)), .val (.int (2 : Int32)), .val .null, .unset] [(.int (2 : Int32)), (.int (0 : Int32)), (.ref s')]))) (fun _ kk => XS.ifNo X2.here hx rfl (hb hby d3_30) rfl ((if0 _ _).trans (feq hgC).1) (XS.aloadN X2.here hx rfl (hb hby d3_33) rfl rfl (XS.iloadN X2.here hx rfl (hb hby d3_34) rfl (XS.iloadN X2.here hx rfl (hb hby d3_35) rfl kk)))) ?_
  obtain ⟨_, _, ⟨T3, L3, k3, n3⟩, -, X3, ⟨Lc3, hQ3, l3, y3, z3⟩, st3⟩ := Jvm.LawKit.callS X2 hx (y := (⟨"java/lang/StringUTF16", "compress", "([CII)[B"⟩ : MethodName)) hown (mvT hZ (wd 64 rfl)) (mvT hZ (wd 65 rfl)) (mvT hZ (wd 66 rfl)) (mvT hZ (wd 67 rfl)) (by decide) (backOf (W := 0) (str_c3_2 l Z a0 hw [] s' c0 c1 ks h0 n0 (by first | omega | exact own_ne (by omega) | exact own_le (by omega) | exact own_lt (by omega)) Vs hc0 hc1) hZ (wd 67 rfl) (wd 66 rfl) (by decide) (by decide)) (g := (mkF m 36 #[.val (.ref a), .val (.ref s'), .val (.int (0 : Int32)), .val (.int (2 : Int32)), .val .null, .unset] [(.int (2 : Int32)), (.int (0 : Int32)), (.ref s')])) rfl (by rw [hml]; rfl) (argsL := [(.ref s'), (.int (0 : Int32)), (.int (2 : Int32))]) (rest := []) (lenOf pd___CII__B rfl) rfl (by show 2 * 0 + _ ≤ _; exact Nat.le_of_eq rfl) (hb hby d3_36) (fun _ _ => ⟨rfl, e2, (by decide : 0 + 1 ≤ _), (by decide : 0 + 2 ≤ _)⟩)
  dsimp only [Pt.U, Pt.locs, Pt.cells, Pt.slots] at X3 l3 y3 z3 st3 hQ3
  subst l3 y3 z3
  obtain ⟨b3, k3, rfl, N3q, lo3, K3, V3⟩ := hQ3
  have lo3 := own_nle lo3
  have N3 := Fr.app N0 N3q
  have hi3 := own_nlt (V3.lt)
  have sz3 := K3.1
  refine go_of (B := (T3.setTop (mkF m 39 #[.val (.ref a), .val (.ref s'), .val (.int (0 : Int32)), .val (.int (2 : Int32)), .val .null, .unset] [(.ref b3)]))) (st3) ?_
  refine go_of (B := (T3.setTop (mkF m 45 #[.val (.ref a), .val (.ref s'), .val (.int (0 : Int32)), .val (.int (2 : Int32)), .val .null, .val (.ref b3)] [(.int (2 : Int32)), (.ref b3), (.ref a)]))) (fun _ kk => XS.astore X3.here hx rfl (hb hby d3_39) rfl rfl rfl (XS.aloadN X3.here hx rfl (hb hby d3_41) rfl rfl (XS.aload X3.here hx rfl (hb hby d3_42) rfl rfl (XS.iloadN X3.here hx rfl (hb hby d3_44) rfl kk)))) ?_
  obtain ⟨_, _, ⟨T4, L4, k4, n4⟩, -, X4, ⟨Lc4, hQ4, l4, y4, z4⟩, st4⟩ := Jvm.LawKit.callS X3 hx (y := (⟨"java/lang/StringUTF16", "coderFromArrayLen", "([BI)B"⟩ : MethodName)) hown (mvT hZ (wd 71 rfl)) (mvT hZ (wd 72 rfl)) (mvT hZ (wd 66 rfl)) (mvT hZ (wd 73 rfl)) (by decide) (backOf (W := 1) (str_cf_2 l Z a0 hw [] b3 k3 _ T3.heap n0 (by first | omega | exact own_ne (by omega) | exact own_le (by omega) | exact own_lt (by omega)) V3) hZ (wd 73 rfl) (wd 66 rfl) (by decide) (by decide)) (g := (mkF m 45 #[.val (.ref a), .val (.ref s'), .val (.int (0 : Int32)), .val (.int (2 : Int32)), .val .null, .val (.ref b3)] [(.int (2 : Int32)), (.ref b3), (.ref a)])) rfl (by rw [hml]; rfl) (argsL := [(.ref b3), (.int (2 : Int32))]) (rest := [(.ref a)]) (lenOf pd___BI_B rfl) rfl (by show 2 * 0 + _ ≤ _; exact Nat.le_of_eq rfl) (hb hby d3_45) (fun _ _ => ⟨rfl, rfl, (by decide : 1 + 0 ≤ _), (by decide : 2 + 0 ≤ _)⟩)
  dsimp only [Pt.U, Pt.locs, Pt.cells, Pt.slots] at X4 l4 y4 z4 st4 hQ4
  subst l4 y4 z4
  obtain ⟨rfl, N4q, e4⟩ := hQ4
  have N4 := Fr.app N3 N4q
  refine go_of (B := (T4.setTop (mkF m 48 #[.val (.ref a), .val (.ref s'), .val (.int (0 : Int32)), .val (.int (2 : Int32)), .val .null, .val (.ref b3)] [(.int (0 : Int32)), (.ref a)]))) (st4) ?_
  have cf_5 := (E.keep K3)
  have cf_6 := (F2.keep K3 nin0)
  obtain ⟨T7, h7, X7, e7, W7, st7⟩ := putFN X4 hx hZ hown (wd 25 rfl) Via.refl e4 cf_6 cf_5 (Or.inr ⟨(wd 21 rfl), rfl, hnm⟩) (wd 5 rfl) (ty := .byte) (v' := (.int (nar .byte (0 : Int32)))) (by decide) rfl (fits_nar_byte _) (g := (mkF m 48 #[.val (.ref a), .val (.ref s'), .val (.int (0 : Int32)), .val (.int (2 : Int32)), .val .null, .val (.ref b3)] [(.int (0 : Int32)), (.ref a)])) rfl rfl (hb hby d3_48)
  have sz7 := W7.size
  have Fw7 := cf_6.same W7
  have N7 := Fr.snoc X7 N4 (g : n0 ≤ a)
  refine go_of (B := (T7.setTop (mkF m 51 #[.val (.ref a), .val (.ref s'), .val (.int (0 : Int32)), .val (.int (2 : Int32)), .val .null, .val (.ref b3)] []))) (st7) ?_
  refine go_of (B := (T7.setTop (mkF m 54 #[.val (.ref a), .val (.ref s'), .val (.int (0 : Int32)), .val (.int (2 : Int32)), .val .null, .val (.ref b3)] [(.ref b3), (.ref a)]))) (fun _ kk => XS.aloadN X7.here hx rfl (hb hby d3_51) rfl rfl (XS.aload X7.here hx rfl (hb hby d3_52) rfl rfl kk)) ?_
  have cf_8 := (cf_5.wr W7)
  have cf_9 := ((F.keep K3 nin0).other W7 (Or.inr (slot_ne (Or.inr (wd 20 rfl)) (Or.inr (wd 21 rfl)) (by decide) (t := (.array .byte)) (t' := .byte) (by decide) (by decide))))
  obtain ⟨T10, h10, X10, e10, W10, st10⟩ := putF X7 hx hZ hown (host := "") (Or.inl (wd 24 rfl)) Via.refl e7 cf_9 cf_8 (Or.inr ⟨(wd 20 rfl), rfl, hnm⟩) (wd 5 rfl) (ty := (.array .byte)) (by decide) rfl rfl (g := (mkF m 54 #[.val (.ref a), .val (.ref s'), .val (.int (0 : Int32)), .val (.int (2 : Int32)), .val .null, .val (.ref b3)] [(.ref b3), (.ref a)])) rfl rfl (hb hby d3_54)
  have sz10 := W10.size
  have Fw10 := cf_9.same W10
  have N10 := Fr.snoc X10 N7 (g : n0 ≤ a)
  refine go_of (B := (T10.setTop (mkF m 57 #[.val (.ref a), .val (.ref s'), .val (.int (0 : Int32)), .val (.int (2 : Int32)), .val .null, .val (.ref b3)] []))) (st10) ?_
  have cf_11 := ((V3.other W7 (by first | omega | exact own_ne (by omega) | exact own_le (by omega) | exact own_lt (by omega))).other W10 (by first | omega | exact own_ne (by omega) | exact own_le (by omega) | exact own_lt (by omega)))
  have cf_12 := (Fw7.other W10 (Or.inr (slot_ne (Or.inr (wd 21 rfl)) (Or.inr (wd 20 rfl)) (by decide) (t := .byte) (t' := (.array .byte)) (by decide) (by decide))))
  have cf_13 := (cf_8.wr W10)
  refine go_end X10 (v := none) (fun _ => rfl) Bd.notSynchronized (by decide) (by decide) (Q := (Q_str_i4_2 Z a s' c0 c1 ks gC u u2 h0 n0)) ?_ (fun fs hr => X10.returnOut hx Bd.returns (hb hby d3_57) hr)
  unfold Q_str_i4_2
  try rw [e10]
  exact ⟨rfl, N10, ((((Keep.refl h0 [a]).trans K3 all0).wr W7 (Or.inl (List.mem_of_getElem? (i := 0) rfl))).wr W10 (Or.inl (List.mem_of_getElem? (i := 0) rfl))), ⟨b3, k3, cf_13, cf_12, Fw10, cf_11, (own_allc hc0 (own_allc hc1 (fun _ q => nomatch q)))⟩⟩
def Q_str_i1_2 (Z : State) (a : Addr) (s' : Addr) (c0 : Int32) (c1 : Int32) (ks : ClassId) (gC : Int32) (u : Value) (u2 : Value) (h0 : Heap) (n0 : Nat) (v : Option Value) (h : Heap) (L : List Loc) : Prop := v = none ∧ Fr n0 L ∧ Keep h0 h [a] ∧ Str Z h a 2 [c0, c1]
theorem ef_str_i1_2 (m : MethodId) (a : Addr) (s' : Addr)  : entryFrame m #[(.ref a), (.ref s')] 2 = mkF m 0 #[.val (.ref a), .val (.ref s')] [] := by first | (simp [entryFrame, mkF, argsToLocals, Value.category]; done) | rfl
theorem str_i1_2 (l : Launch) (Z : State) (a0 : Array Value) (hw : TW a0 Z) (ws : List Jvm.Cond) (a : Addr) (s' : Addr) (c0 : Int32) (c1 : Int32) (ks : ClassId) (gC : Int32) (u : Value) (u2 : Value) (h0 : Heap) (n0 : Nat) (Z0 : n0 ≤ h0.size) (O : Old Z n0 h0) (SC : Sta Z Z.heap "java/lang/String" "COMPACT_STRINGS" "Z" (.int gC)) (hgC : ¬ gC = (0 : Int32)) (E : Exa Z h0 a "java/lang/String") (F : Fld Z h0 a "java/lang/String" "value" "[B" u) (F2 : Fld Z h0 a "java/lang/String" "coder" "B" u2) (g : n0 ≤ a) (Vs : Arv Z h0 s' ks .char 2 [(.int c0), (.int c1)] (.int 0)) (hc0 : ¬ c0 < 0 ∧ ¬ (255 : Int32) < c0) (hc1 : ¬ c1 < 0 ∧ ¬ (255 : Int32) < c1) :
    own_MF l Z MN3 jdk_42_method_3_code 2 none ws (own_R 3 1 2 52) #[(.ref a), (.ref s')] h0 (Q_str_i1_2 Z a s' c0 c1 ks gC u u2 h0 n0) := by
  have wd := @own_wd _ _ hw
  refine MetFree.of_bodySF (plainFor_of_name pn_java_lang_String) hisR ?_
  intro p e s m args below meth c s₁ Bd hml0 hP hK
  obtain ⟨rfl, hZ, hh⟩ := hP
  have hx := Bd.exec
  have hby := Bd.bytes
  have hml : c.maxLocals = 2 := hml0
  have hown : s.vm.findClass "java/lang/String" = some m.cls := findClass_of_methodNamed Bd.named
  have hnm := (name_of_methodNamed Bd.named Bd.method).1
  have X0 : Stand p l e (own_R 3 1 2 52) s m #[(.ref a), (.ref s')] below meth c s₁ [] 0 0 := Stand.of_body Bd
  have e0 : s₁.heap = h0 := by rw [← hh, Bd.state]; rfl
  have N0 := Fr.nil n0
  have lta := own_nlt (E.lt)
  have lts := own_nlt (Vs.lt)
  refine go_of (A := s₁.setTop (entryFrame m #[(.ref a), (.ref s')] 2)) (B := s₁.setTop (mkF m 0 #[.val (.ref a), .val (.ref s')] [])) (fun _ kk' => castTop (ef_str_i1_2 m a s') kk') ?_
  refine go_of (B := (s₁.setTop (mkF m 4 #[.val (.ref a), .val (.ref s')] [(.ref s'), (.int (0 : Int32)), (.ref s'), (.ref a)]))) (fun _ kk => XS.aloadN X0.here hx rfl (hb hby d2_0) rfl rfl (XS.aloadN X0.here hx rfl (hb hby d2_1) rfl rfl (XS.iconst X0.here hx rfl (hb hby d2_2) (XS.aloadN X0.here hx rfl (hb hby d2_3) rfl rfl kk)))) ?_
  obtain ⟨cl1, Ar1, q1, Sz1, Nn1, Hh1, G1⟩ := id (Vs)
  have ln1 := len_of Sz1 Nn1
  refine go_of (B := (s₁.setTop (mkF m 5 #[.val (.ref a), .val (.ref s')] [(.int (2 : Int32)), (.int (0 : Int32)), (.ref s'), (.ref a)]))) (fun _ kk => X0.arraylength hx (by rw [e0]; exact Ar1.1) (State.isArrayOf_alike hZ.alike Ar1.2.1) (g := (mkF m 4 #[.val (.ref a), .val (.ref s')] [(.ref s'), (.int (0 : Int32)), (.ref s'), (.ref a)])) rfl rfl (hb hby d2_4) _ (by rw [ln1]; exact kk)) ?_
  refine go_of (B := (s₁.setTop (mkF m 6 #[.val (.ref a), .val (.ref s')] [.null, (.int (2 : Int32)), (.int (0 : Int32)), (.ref s'), (.ref a)]))) (fun _ kk => XS.aconstNull X0.here hx rfl (hb hby d2_5) kk) ?_
  obtain ⟨_, _, ⟨T2, L2, k2, n2⟩, -, X2, ⟨Lc2, hQ2, l2, y2, z2⟩, st2⟩ := X0.specialBack hx (y := MN4) rfl hown (mvT hZ (wd 11 rfl)) (mvT hZ (wd 12 rfl)) (mvT hZ (wd 14 rfl)) (by decide) (backOf (W := 0) (str_i4_2 l Z a0 hw [] a s' c0 c1 ks gC u u2 h0 n0 Z0 O SC hgC E F F2 g Vs hc0 hc1) hZ (wd 14 rfl) (wd 6 rfl) (by decide) (by decide)) (g := (mkF m 6 #[.val (.ref a), .val (.ref s')] [.null, (.int (2 : Int32)), (.int (0 : Int32)), (.ref s'), (.ref a)])) rfl (by rw [hml]; rfl) (Steps.refl _) (a := a) (argsL := [(.ref s'), (.int (0 : Int32)), (.int (2 : Int32)), .null]) (rest := []) (lenOf pd___CIILjava_lang_Void__V rfl) rfl (by show 2 * 0 + _ ≤ _; exact Nat.le_of_eq rfl) (hb hby d2_6) (fun _ _ => ⟨rfl, e0, (by decide : 0 + 1 ≤ _), (by decide : 0 + 2 ≤ _)⟩)
  dsimp only [Pt.U, Pt.locs, Pt.cells, Pt.slots] at X2 l2 y2 z2 st2 hQ2
  subst l2 y2 z2
  obtain ⟨rfl, N2q, K2, S2⟩ := hQ2
  have N2 := Fr.app N0 N2q
  have sz2 := K2.1
  refine go_tr (B := (T2.setTop (mkF m 9 #[.val (.ref a), .val (.ref s')] []))) (st2) ?_
  refine go_end X2 (v := none) (fun _ => rfl) Bd.notSynchronized (by decide) (by decide) (Q := (Q_str_i1_2 Z a s' c0 c1 ks gC u u2 h0 n0)) ?_ (fun fs hr => X2.returnOut hx Bd.returns (hb hby d2_9) hr)
  unfold Q_str_i1_2
  exact ⟨rfl, N2, ((Keep.refl h0 [a]).trans K2 (allS (Or.inl (List.mem_of_getElem? (i := 0) rfl)) all0)), S2⟩
theorem d1_0 : decode method_2_code 0 = .ok (.iload_n 0, 1) := by decide +kernel
theorem d1_1 : decode method_2_code 1 = .ok (.ifCond .ne 14, 3) := by decide +kernel
theorem d1_4 : decode method_2_code 4 = .ok (.new 7, 3) := by decide +kernel
theorem d1_7 : decode method_2_code 7 = .ok (.dup, 1) := by decide +kernel
theorem d1_8 : decode method_2_code 8 = .ok (.iconst 0, 1) := by decide +kernel
theorem d1_9 : decode method_2_code 9 = .ok (.newarray .char, 2) := by decide +kernel
theorem d1_11 : decode method_2_code 11 = .ok (.invokespecial 9, 3) := by decide +kernel
theorem pd___C_V : parseMethodDescriptor "([C)V" = some ⟨[(.array .char)], none⟩ := by decide +kernel
theorem d1_14 : decode method_2_code 14 = .ok (.areturn, 1) := by decide +kernel
def Q_rm1 (Z : State) (nn : Int32) (c0 : Int32) (c1 : Int32) (gC : Int32) (h0 : Heap) (n0 : Nat) (v : Option Value) (h : Heap) (L : List Loc) : Prop := ∃ t : Addr, v = some (.ref t) ∧ Fr n0 L ∧ h0.size ≤ t ∧ Keep h0 h [] ∧ StrL Z h t (own_mk nn c0 c1)
theorem d1_15 : decode method_2_code 15 = .ok (.iload_n 0, 1) := by decide +kernel
theorem d1_16 : decode method_2_code 16 = .ok (.iconst 1, 1) := by decide +kernel
theorem d1_17 : decode method_2_code 17 = .ok (.if_icmp .ne 8, 3) := by decide +kernel
theorem d1_20 : decode method_2_code 20 = .ok (.iload_n 1, 1) := by decide +kernel
theorem d1_21 : decode method_2_code 21 = .ok (.invokestatic 12, 3) := by decide +kernel
theorem pd__C_Ljava_lang_String_ : parseMethodDescriptor "(C)Ljava/lang/String;" = some ⟨[.char], some (.object "java/lang/String")⟩ := by decide +kernel
theorem d1_24 : decode method_2_code 24 = .ok (.areturn, 1) := by decide +kernel
theorem d1_25 : decode method_2_code 25 = .ok (.new 7, 3) := by decide +kernel
theorem d1_28 : decode method_2_code 28 = .ok (.dup, 1) := by decide +kernel
theorem d1_29 : decode method_2_code 29 = .ok (.iconst 2, 1) := by decide +kernel
theorem d1_30 : decode method_2_code 30 = .ok (.newarray .char, 2) := by decide +kernel
theorem d1_32 : decode method_2_code 32 = .ok (.dup, 1) := by decide +kernel
theorem d1_33 : decode method_2_code 33 = .ok (.iconst 0, 1) := by decide +kernel
theorem d1_34 : decode method_2_code 34 = .ok (.iload_n 1, 1) := by decide +kernel
theorem d1_35 : decode method_2_code 35 = .ok (.castore, 1) := by decide +kernel
theorem d1_36 : decode method_2_code 36 = .ok (.dup, 1) := by decide +kernel
theorem d1_37 : decode method_2_code 37 = .ok (.iconst 1, 1) := by decide +kernel
theorem d1_38 : decode method_2_code 38 = .ok (.iload_n 2, 1) := by decide +kernel
theorem d1_39 : decode method_2_code 39 = .ok (.castore, 1) := by decide +kernel
theorem d1_40 : decode method_2_code 40 = .ok (.invokespecial 9, 3) := by decide +kernel
theorem d1_43 : decode method_2_code 43 = .ok (.areturn, 1) := by decide +kernel
theorem pn_com_example_grantline_grantline_PermissionKeyEqualsPinLaw : plainName "com/example/grantline/grantline/PermissionKeyEqualsPinLaw" = true := by first | (simp [plainName, overriddenIn]; done) | decide +kernel
theorem ef_rm1 (m : MethodId) (nn : Int32) (c0 : Int32) (c1 : Int32)  : entryFrame m #[(.int nn), (.int c0), (.int c1)] 3 = mkF m 0 #[.val (.int nn), .val (.int c0), .val (.int c1)] [] := by first | (simp [entryFrame, mkF, argsToLocals, Value.category]; done) | rfl
theorem rm1 (l : Launch) (Z : State) (a0 : Array Value) (hw : TW a0 Z) (ws : List Jvm.Cond) (nn : Int32) (c0 : Int32) (c1 : Int32) (gC : Int32) (h0 : Heap) (n0 : Nat) (Z0 : n0 ≤ h0.size) (O : Old Z n0 h0) (SC : Sta Z Z.heap "java/lang/String" "COMPACT_STRINGS" "Z" (.int gC)) (hgC : ¬ gC = (0 : Int32)) (hc0 : ¬ c0 < 0 ∧ ¬ (255 : Int32) < c0) (hc1 : ¬ c1 < 0 ∧ ¬ (255 : Int32) < c1) :
    own_MFH l Z MN2 method_2_code 3 (some (.object "java/lang/String")) ws (own_R 4 6 12 66) #[(.int nn), (.int c0), (.int c1)] h0 (Q_rm1 Z nn c0 c1 gC h0 n0) := by
  have wd := @own_wd _ _ hw
  refine MetFree.of_bodySF (plainFor_of_name pn_com_example_grantline_grantline_PermissionKeyEqualsPinLaw) hisR ?_
  intro p e s m args below meth c s₁ Bd hml0 hP hK
  obtain ⟨rfl, hZ, hh, hCH⟩ := hP
  have hx := Bd.exec
  have hby := Bd.bytes
  have hml : c.maxLocals = 3 := hml0
  have hown : s.vm.findClass "com/example/grantline/grantline/PermissionKeyEqualsPinLaw" = some m.cls := findClass_of_methodNamed Bd.named
  have hnm := (name_of_methodNamed Bd.named Bd.method).1
  have X0 : Stand p l e (own_R 4 6 12 66) (s.setVm s.vm) m #[(.int nn), (.int c0), (.int c1)] below meth c s₁ [] 0 0 := Stand.of_body Bd
  have e0 : s₁.heap = h0 := by rw [← hh, Bd.state]; rfl
  have N0 := Fr.nil n0
  have hS : s.Since s.vm 0 := (State.WarmedH.refl s).since 0
  have hh0 := hh
  have hEL := own_EW hw
  have HC0 := CHr.refl hCH
  refine go_of (A := s₁.setTop (entryFrame m #[(.int nn), (.int c0), (.int c1)] 3)) (B := s₁.setTop (mkF m 0 #[.val (.int nn), .val (.int c0), .val (.int c1)] [])) (fun _ kk' => castTop (ef_rm1 m nn c0 c1) kk') ?_
  refine go_of (B := (s₁.setTop (mkF m 1 #[.val (.int nn), .val (.int c0), .val (.int c1)] [(.int nn)]))) (fun _ kk => XS.iloadN X0.here hx rfl (hb hby d1_0) rfl kk) ?_
  by_cases hcc1 : nn = (0 : Int32)
  · refine go_of (B := (s₁.setTop (mkF m 4 #[.val (.int nn), .val (.int c0), .val (.int c1)] []))) (fun _ kk => XS.ifNo X0.here hx rfl (hb hby d1_1) rfl ((if0 _ _).trans (teq hcc1).2) kk) ?_
    obtain ⟨T2, h2, X2, e2, E2, A2, D2, -, st2⟩ := newO X0 hx hZ hown (wd 4 rfl) (wd 5 rfl) (wd 6 rfl) e0 (g := (mkF m 4 #[.val (.int nn), .val (.int c0), .val (.int c1)] [])) rfl (hb hby d1_4) (by decide) (by decide)
    obtain ⟨b2, g2⟩ : ∃ z, z = h0.size := ⟨_, rfl⟩
    rw [← g2] at A2 D2 st2
    have hi2 := own_nlt A2.lt
    have sz2 := E2.1
    have HC2 := HC0.trans (CHr.ext E2 HC0.1)
    have F2_value : Fld Z h2 b2 "java/lang/String" "value" "[B" .null := D2 (Or.inr (wd 20 rfl)) (ty := (.array .byte)) (by decide)
    have F2_coder : Fld Z h2 b2 "java/lang/String" "coder" "B" (.int (0 : Int32)) := D2 (Or.inr (wd 21 rfl)) (ty := .byte) (by decide)
    refine go_of (B := (T2.setTop (mkF m 7 #[.val (.int nn), .val (.int c0), .val (.int c1)] [(.ref b2)]))) (st2) ?_
    refine go_of (B := (T2.setTop (mkF m 9 #[.val (.int nn), .val (.int c0), .val (.int c1)] [(.int (0 : Int32)), (.ref b2), (.ref b2)]))) (fun _ kk => XS.dup X2.here hx rfl (hb hby d1_7) rfl rfl (XS.iconst X2.here hx rfl (hb hby d1_8) kk)) ?_
    obtain ⟨T3, h3, k3, X3, e3, E3, A3, st3⟩ := newP X2 hx hZ (wd 7 rfl) e2 (g := (mkF m 9 #[.val (.int nn), .val (.int c0), .val (.int c1)] [(.int (0 : Int32)), (.ref b2), (.ref b2)])) rfl (hb hby d1_9) rfl (by decide) (cap := 0) (by decide) (by decide) (by decide) (by decide)
    obtain ⟨b3, g3⟩ : ∃ z, z = h2.size := ⟨_, rfl⟩
    rw [← g3] at A3 st3
    have hi3 := own_nlt A3.lt
    have sz3 := E3.1
    have HC3 := HC2.trans (CHr.ext E3 HC2.1)
    have V3 : Arv Z h3 b3 k3 .char (0 : Int32) [] (.int (0 : Int32)) := (Arv.new A3 (by decide)).pad (pad_rep [] (.int (0 : Int32)) 0)
    refine go_of (B := (T3.setTop (mkF m 11 #[.val (.int nn), .val (.int c0), .val (.int c1)] [(.ref b3), (.ref b2), (.ref b2)]))) (st3) ?_
    have cf_4 := (A2.ext E3)
    have cf_5 := (F2_value.ext E3)
    have cf_6 := (F2_coder.ext E3)
    obtain ⟨_, _, ⟨T7, L7, k7, n7⟩, -, X7', hS7', gr7, ⟨Lc7, hQ7, l7, y7, z7, HR7⟩, st7⟩ := X3.specialBackS hx (y := MN3) rfl hown (mvT hZ (wd 8 rfl)) (mvT hZ (wd 9 rfl)) (mvT hZ (wd 10 rfl)) (by decide) (backOfSH (W := 1) (str_i1_0 l Z a0 hw [] b2 b3 _ k3 h3 n0 (by first | omega | exact own_ne (by omega) | exact own_le (by omega) | exact own_lt (by omega)) cf_4 cf_5 cf_6 (by first | omega | exact own_ne (by omega) | exact own_le (by omega) | exact own_lt (by omega)) V3) hZ (wd 10 rfl) (wd 6 rfl) (by decide) (by decide) hEL HC3.1) (g := (mkF m 11 #[.val (.int nn), .val (.int c0), .val (.int c1)] [(.ref b3), (.ref b2), (.ref b2)])) rfl (by rw [hml]; rfl) (Steps.refl _) (a := b2) (argsL := [(.ref b3)]) (rest := [(.ref b2)]) (lenOf pd___C_V rfl) rfl (by show 2 * 0 + _ ≤ _; exact Nat.le_of_eq rfl) (hb hby d1_11) (fun _ _ => ⟨rfl, e3, (by decide : 2 + 4 ≤ _), (by decide : 4 + 8 ≤ _)⟩)
    dsimp only [Pt.U, Pt.locs, Pt.cells, Pt.slots] at X7' hS7' gr7 l7 y7 z7 st7 hQ7 HR7
    subst l7 y7 z7
    have X7 : Stand _ _ _ _ (s.setVm T7.vm) _ _ _ _ _ T7 _ _ _ := X7'
    have hS : s.Since T7.vm T7.heap.size := foldS hS (by rw [e3]; omega) hS7' gr7
    have hZ : Z.Warmed39 (s.setVm T7.vm).vm := State.Warmed39.trans (t := s.setVm s.vm) hZ hS7'.1
    have hown : (s.setVm T7.vm).vm.findClass "com/example/grantline/grantline/PermissionKeyEqualsPinLaw" = some m.cls := by rw [show (s.setVm T7.vm).vm = T7.vm from rfl, hS7'.1.alike.findClass]; exact hown
    obtain ⟨rfl, N7q, K7, S7⟩ := hQ7
    have N7 := Fr.app N0 N7q
    have sz7 := K7.1
    have HC7 := HC3.trans HR7
    refine go_tr (B := (T7.setTop (mkF m 14 #[.val (.int nn), .val (.int c0), .val (.int c1)] [(.ref b2)]))) (st7) ?_
    refine go_endH X7 hZ hEL HC7 hh0 rfl hS (by first | omega | exact own_ne (by omega) | exact own_le (by omega) | exact own_lt (by omega)) (v := some (.ref b2)) (fun h => by rw [Bd.returns] at h; cases h) Bd.notSynchronized (by decide) (by decide) (Q := (Q_rm1 Z nn c0 c1 gC h0 n0)) ?_ (fun fs hr => own_retA X7 hx Bd.returns rfl rfl (hb hby d1_14) hr)
    unfold Q_rm1
    refine ⟨b2, rfl, N7, by omega, ((((Keep.refl h0 []).ext E2).ext E3).trans K7 (allS (Or.inr (by first | omega | exact own_ne (by omega) | exact own_le (by omega) | exact own_lt (by omega))) all0)), ?_⟩
    simp only [own_mk, own_10, hcc1, ↓reduceIte]
    exact S7
  · refine go_of (B := (s₁.setTop (mkF m 17 #[.val (.int nn), .val (.int c0), .val (.int c1)] [(.int (1 : Int32)), (.int nn)]))) (fun _ kk => XS.ifYes X0.here hx rfl (pc0 := 1) (pc' := 15) rfl (hb hby d1_1) rfl ((if0 _ _).trans (feq hcc1).2) (by decide) (by decide) (XS.iloadN X0.here hx rfl (hb hby d1_15) rfl (XS.iconst X0.here hx rfl (hb hby d1_16) kk))) ?_
    by_cases hcc8 : nn = (1 : Int32)
    · refine go_of (B := (s₁.setTop (mkF m 21 #[.val (.int nn), .val (.int c0), .val (.int c1)] [(.int c0)]))) (fun _ kk => XS.icmpNo X0.here hx rfl (hb hby d1_17) rfl (teq hcc8).2 (XS.iloadN X0.here hx rfl (hb hby d1_20) rfl kk)) ?_
      obtain ⟨_, _, ⟨T9, L9, k9, n9⟩, -, X9, ⟨Lc9, hQ9, l9, y9, z9⟩, st9⟩ := Jvm.LawKit.callS X0 hx (y := (⟨"java/lang/String", "valueOf", "(C)Ljava/lang/String;"⟩ : MethodName)) hown (mvT hZ (wd 49 rfl)) (mvT hZ (wd 50 rfl)) (mvT hZ (wd 6 rfl)) (mvT hZ (wd 51 rfl)) (by decide) (backOf (W := 0) (rm8 l Z a0 hw [] c0 gC h0 n0 (by first | omega | exact own_ne (by omega) | exact own_le (by omega) | exact own_lt (by omega)) O SC hgC hc0) hZ (wd 51 rfl) (wd 6 rfl) (by decide) (by decide)) (g := (mkF m 21 #[.val (.int nn), .val (.int c0), .val (.int c1)] [(.int c0)])) rfl (by rw [hml]; rfl) (argsL := [(.int c0)]) (rest := []) (lenOf pd__C_Ljava_lang_String_ rfl) rfl (by show 2 * 0 + _ ≤ _; exact Nat.le_of_eq rfl) (hb hby d1_21) (fun _ _ => ⟨rfl, e0, (by decide : 0 + 2 ≤ _), (by decide : 0 + 5 ≤ _)⟩)
      dsimp only [Pt.U, Pt.locs, Pt.cells, Pt.slots] at X9 l9 y9 z9 st9 hQ9
      subst l9 y9 z9
      obtain ⟨b9, rfl, N9q, lo9, K9, S9⟩ := hQ9
      have lo9 := own_nle lo9
      have N9 := Fr.app N0 N9q
      have hi9 := own_nlt (S9.exa.lt)
      have sz9 := K9.1
      have SK9 : ∀ x ∈ ([] : List Addr), Safe Z own_EL s.vm h0 x := all0
      have HC9 := HC0.trans (CHr.keep K9 SK9 HC0.1)
      refine go_of (B := (T9.setTop (mkF m 24 #[.val (.int nn), .val (.int c0), .val (.int c1)] [(.ref b9)]))) (st9) ?_
      refine go_endH X9 hZ hEL HC9 hh0 rfl hS (by first | omega | exact own_ne (by omega) | exact own_le (by omega) | exact own_lt (by omega)) (v := some (.ref b9)) (fun h => by rw [Bd.returns] at h; cases h) Bd.notSynchronized (by decide) (by decide) (Q := (Q_rm1 Z nn c0 c1 gC h0 n0)) ?_ (fun fs hr => own_retA X9 hx Bd.returns rfl rfl (hb hby d1_24) hr)
      unfold Q_rm1
      refine ⟨b9, rfl, N9, by omega, ((Keep.refl h0 []).trans K9 all0), ?_⟩
      simp only [own_mk, own_10, hcc1, hcc8, ↓reduceIte]
      exact S9
    · refine go_of (B := (s₁.setTop (mkF m 25 #[.val (.int nn), .val (.int c0), .val (.int c1)] []))) (fun _ kk => XS.icmpYes X0.here hx rfl (pc0 := 17) (pc' := 25) rfl (hb hby d1_17) rfl (feq hcc8).2 (by decide) (by decide) kk) ?_
      obtain ⟨T10, h10, X10, e10, E10, A10, D10, -, st10⟩ := newO X0 hx hZ hown (wd 4 rfl) (wd 5 rfl) (wd 6 rfl) e0 (g := (mkF m 25 #[.val (.int nn), .val (.int c0), .val (.int c1)] [])) rfl (hb hby d1_25) (by decide) (by decide)
      obtain ⟨b10, g10⟩ : ∃ z, z = h0.size := ⟨_, rfl⟩
      rw [← g10] at A10 D10 st10
      have hi10 := own_nlt A10.lt
      have sz10 := E10.1
      have HC10 := HC0.trans (CHr.ext E10 HC0.1)
      have F10_value : Fld Z h10 b10 "java/lang/String" "value" "[B" .null := D10 (Or.inr (wd 20 rfl)) (ty := (.array .byte)) (by decide)
      have F10_coder : Fld Z h10 b10 "java/lang/String" "coder" "B" (.int (0 : Int32)) := D10 (Or.inr (wd 21 rfl)) (ty := .byte) (by decide)
      refine go_of (B := (T10.setTop (mkF m 28 #[.val (.int nn), .val (.int c0), .val (.int c1)] [(.ref b10)]))) (st10) ?_
      refine go_of (B := (T10.setTop (mkF m 30 #[.val (.int nn), .val (.int c0), .val (.int c1)] [(.int (2 : Int32)), (.ref b10), (.ref b10)]))) (fun _ kk => XS.dup X10.here hx rfl (hb hby d1_28) rfl rfl (XS.iconst X10.here hx rfl (hb hby d1_29) kk)) ?_
      obtain ⟨T11, h11, k11, X11, e11, E11, A11, st11⟩ := newP X10 hx hZ (wd 7 rfl) e10 (g := (mkF m 30 #[.val (.int nn), .val (.int c0), .val (.int c1)] [(.int (2 : Int32)), (.ref b10), (.ref b10)])) rfl (hb hby d1_30) rfl (by decide) (cap := 2) (by decide) (by decide) (by decide) (by decide)
      obtain ⟨b11, g11⟩ : ∃ z, z = h10.size := ⟨_, rfl⟩
      rw [← g11] at A11 st11
      have hi11 := own_nlt A11.lt
      have sz11 := E11.1
      have HC11 := HC10.trans (CHr.ext E11 HC10.1)
      have V11 : Arv Z h11 b11 k11 .char (2 : Int32) [(.int (0 : Int32)), (.int (0 : Int32))] (.int (0 : Int32)) := (Arv.new A11 (by decide)).pad (pad_rep [] (.int (0 : Int32)) 2)
      refine go_of (B := (T11.setTop (mkF m 32 #[.val (.int nn), .val (.int c0), .val (.int c1)] [(.ref b11), (.ref b10), (.ref b10)]))) (st11) ?_
      refine go_of (B := (T11.setTop (mkF m 35 #[.val (.int nn), .val (.int c0), .val (.int c1)] [(.int c0), (.int (0 : Int32)), (.ref b11), (.ref b11), (.ref b10), (.ref b10)]))) (fun _ kk => XS.dup X11.here hx rfl (hb hby d1_32) rfl rfl (XS.iconst X11.here hx rfl (hb hby d1_33) (XS.iloadN X11.here hx rfl (hb hby d1_34) rfl kk))) ?_
      obtain ⟨cl12, Ar12, q12, Sz12, Nn12, Hh12, G12⟩ := id (V11)
      obtain ⟨T13, h13, X13, e13, W13, st13⟩ := stC X11 hx hZ e11 Ar12 (j := (0 : Int32)) (inb_of Sz12 ⟨by decide, by decide⟩) (g := (mkF m 35 #[.val (.int nn), .val (.int c0), .val (.int c1)] [(.int c0), (.int (0 : Int32)), (.ref b11), (.ref b11), (.ref b10), (.ref b10)])) rfl rfl (hb hby d1_35)
      have sz13 := W13.size
      have N13 := Fr.snoc X13 N0 ((by first | omega | exact own_ne (by omega) | exact own_le (by omega) | exact own_lt (by omega)) : n0 ≤ b11)
      have V13 : Arv Z h13 b11 k11 .char (2 : Int32) [(.int (nar .char c0)), (.int (0 : Int32))] (.int (0 : Int32)) := Arv.set Ar12 q12 Sz12 Nn12 Hh12 G12 (fits_nar_char _) W13 0 rfl (Nat.le_of_ble_eq_true rfl)
      rw [own_narc hc0] at V13
      have SF13 := (own_safe_arv hZ.alike V11 (by decide) : (Safe Z own_EL _ h11 b11))
      have HC13 := HC11.trans (CHr.wr W13 SF13 HC11.1)
      refine go_of (B := (T13.setTop (mkF m 36 #[.val (.int nn), .val (.int c0), .val (.int c1)] [(.ref b11), (.ref b10), (.ref b10)]))) (st13) ?_
      refine go_of (B := (T13.setTop (mkF m 39 #[.val (.int nn), .val (.int c0), .val (.int c1)] [(.int c1), (.int (1 : Int32)), (.ref b11), (.ref b11), (.ref b10), (.ref b10)]))) (fun _ kk => XS.dup X13.here hx rfl (hb hby d1_36) rfl rfl (XS.iconst X13.here hx rfl (hb hby d1_37) (XS.iloadN X13.here hx rfl (hb hby d1_38) rfl kk))) ?_
      obtain ⟨cl14, Ar14, q14, Sz14, Nn14, Hh14, G14⟩ := id (V13)
      obtain ⟨T15, h15, X15, e15, W15, st15⟩ := stC X13 hx hZ e13 Ar14 (j := (1 : Int32)) (inb_of Sz14 ⟨by decide, by decide⟩) (g := (mkF m 39 #[.val (.int nn), .val (.int c0), .val (.int c1)] [(.int c1), (.int (1 : Int32)), (.ref b11), (.ref b11), (.ref b10), (.ref b10)])) rfl rfl (hb hby d1_39)
      have sz15 := W15.size
      have N15 := Fr.snoc X15 N13 ((by first | omega | exact own_ne (by omega) | exact own_le (by omega) | exact own_lt (by omega)) : n0 ≤ b11)
      have V15 : Arv Z h15 b11 k11 .char (2 : Int32) [(.int c0), (.int (nar .char c1))] (.int (0 : Int32)) := Arv.set Ar14 q14 Sz14 Nn14 Hh14 G14 (fits_nar_char _) W15 1 rfl (Nat.le_of_ble_eq_true rfl)
      rw [own_narc hc1] at V15
      have SF15 := (own_safe_arv hZ.alike V13 (by decide) : (Safe Z own_EL _ h13 b11))
      have HC15 := HC13.trans (CHr.wr W15 SF15 HC13.1)
      refine go_of (B := (T15.setTop (mkF m 40 #[.val (.int nn), .val (.int c0), .val (.int c1)] [(.ref b11), (.ref b10), (.ref b10)]))) (st15) ?_
      have cf_16 := (((A10.ext E11).wr W13).wr W15)
      have cf_17 := (((F10_value.ext E11).other W13 (Or.inl (by first | omega | exact own_ne (by omega) | exact own_le (by omega) | exact own_lt (by omega)))).other W15 (Or.inl (by first | omega | exact own_ne (by omega) | exact own_le (by omega) | exact own_lt (by omega))))
      have sf_18 := (own_safe_null hZ.alike cf_16 cf_17 : (Safe Z own_EL _ h15 b10))
      have cf_19 := ((((O.ext E10).ext E11).wr W13 (by first | omega | exact own_ne (by omega) | exact own_le (by omega) | exact own_lt (by omega))).wr W15 (by first | omega | exact own_ne (by omega) | exact own_le (by omega) | exact own_lt (by omega)))
      have cf_20 := (((F10_coder.ext E11).other W13 (Or.inl (by first | omega | exact own_ne (by omega) | exact own_le (by omega) | exact own_lt (by omega)))).other W15 (Or.inl (by first | omega | exact own_ne (by omega) | exact own_le (by omega) | exact own_lt (by omega))))
      obtain ⟨_, _, ⟨T21, L21, k21, n21⟩, -, X21, ⟨Lc21, hQ21, l21, y21, z21⟩, st21⟩ := X15.specialBack hx (y := MN3) rfl hown (mvT hZ (wd 8 rfl)) (mvT hZ (wd 9 rfl)) (mvT hZ (wd 10 rfl)) (by decide) (backOf (W := 1) (str_i1_2 l Z a0 hw [] b10 b11 c0 c1 k11 gC _ _ h15 n0 (by first | omega | exact own_ne (by omega) | exact own_le (by omega) | exact own_lt (by omega)) cf_19 SC hgC cf_16 cf_17 cf_20 (by first | omega | exact own_ne (by omega) | exact own_le (by omega) | exact own_lt (by omega)) V15 hc0 hc1) hZ (wd 10 rfl) (wd 6 rfl) (by decide) (by decide)) (g := (mkF m 40 #[.val (.int nn), .val (.int c0), .val (.int c1)] [(.ref b11), (.ref b10), (.ref b10)])) rfl (by rw [hml]; rfl) (Steps.refl _) (a := b10) (argsL := [(.ref b11)]) (rest := [(.ref b10)]) (lenOf pd___C_V rfl) rfl (by show 2 * 0 + _ ≤ _; exact Nat.le_of_eq rfl) (hb hby d1_40) (fun _ _ => ⟨rfl, e15, (by decide : 2 + 1 ≤ _), (by decide : 6 + 2 ≤ _)⟩)
      dsimp only [Pt.U, Pt.locs, Pt.cells, Pt.slots] at X21 l21 y21 z21 st21 hQ21
      subst l21 y21 z21
      obtain ⟨rfl, N21q, K21, S21⟩ := hQ21
      have N21 := Fr.app N15 N21q
      have sz21 := K21.1
      have SK21 : ∀ x ∈ [b10], Safe Z own_EL _ h15 x := (allS sf_18 all0)
      have HC21 := HC15.trans (CHr.keep K21 SK21 HC15.1)
      refine go_tr (B := (T21.setTop (mkF m 43 #[.val (.int nn), .val (.int c0), .val (.int c1)] [(.ref b10)]))) (st21) ?_
      refine go_endH X21 hZ hEL HC21 hh0 rfl hS (by first | omega | exact own_ne (by omega) | exact own_le (by omega) | exact own_lt (by omega)) (v := some (.ref b10)) (fun h => by rw [Bd.returns] at h; cases h) Bd.notSynchronized (by decide) (by decide) (Q := (Q_rm1 Z nn c0 c1 gC h0 n0)) ?_ (fun fs hr => own_retA X21 hx Bd.returns rfl rfl (hb hby d1_43) hr)
      unfold Q_rm1
      refine ⟨b10, rfl, N21, by omega, ((((((Keep.refl h0 []).ext E10).ext E11).wr W13 (Or.inr (by first | omega | exact own_ne (by omega) | exact own_le (by omega) | exact own_lt (by omega)))).wr W15 (Or.inr (by first | omega | exact own_ne (by omega) | exact own_le (by omega) | exact own_lt (by omega)))).trans K21 (allS (Or.inr (by first | omega | exact own_ne (by omega) | exact own_le (by omega) | exact own_lt (by omega))) all0)), ?_⟩
      simp only [own_mk, own_10, hcc1, hcc8, ↓reduceIte]
      exact S21
def OK (Z : State) (h : Heap) (a : Addr) (pp : Int32) (tt : Addr) : Prop := Exa Z h a "com/example/grantline/grantline/Permission$Key" ∧ Fld Z h a "com/example/grantline/grantline/Permission$Key" "part" "I" (.int pp) ∧ Fld Z h a "com/example/grantline/grantline/Permission$Key" "text" "Ljava/lang/String;" (.ref tt)
theorem d6_0 : decode jdk_30_method_1_code 0 = .ok (.aload_n 0, 1) := by decide +kernel
theorem d6_1 : decode jdk_30_method_1_code 1 = .ok (.invokespecial 1, 3) := by decide +kernel
theorem d6_4 : decode jdk_30_method_1_code 4 = .ok (.return_, 1) := by decide +kernel
def Q_rm6 (Z : State) (a : Addr) (h0 : Heap) (n0 : Nat) (v : Option Value) (h : Heap) (L : List Loc) : Prop := v = none ∧ Fr n0 L ∧ h = h0
theorem pn_java_lang_Record : plainName "java/lang/Record" = true := by first | (simp [plainName, overriddenIn]; done) | decide +kernel
theorem ef_rm6 (m : MethodId) (a : Addr)  : entryFrame m #[(.ref a)] 1 = mkF m 0 #[.val (.ref a)] [] := by first | (simp [entryFrame, mkF, argsToLocals, Value.category]; done) | rfl
theorem rm6 (l : Launch) (Z : State) (a0 : Array Value) (hw : TW a0 Z) (ws : List Jvm.Cond) (a : Addr) (h0 : Heap) (n0 : Nat) (Z0 : n0 ≤ h0.size)  :
    own_MF l Z (⟨"java/lang/Record", "<init>", "()V"⟩ : MethodName) jdk_30_method_1_code 1 none ws (own_R 1 0 0 12) #[(.ref a)] h0 (Q_rm6 Z a h0 n0) := by
  have wd := @own_wd _ _ hw
  refine MetFree.of_bodySF (plainFor_of_name pn_java_lang_Record) hisR ?_
  intro p e s m args below meth c s₁ Bd hml0 hP hK
  obtain ⟨rfl, hZ, hh⟩ := hP
  have hx := Bd.exec
  have hby := Bd.bytes
  have hml : c.maxLocals = 1 := hml0
  have hown : s.vm.findClass "java/lang/Record" = some m.cls := findClass_of_methodNamed Bd.named
  have hnm := (name_of_methodNamed Bd.named Bd.method).1
  have X0 : Stand p l e (own_R 1 0 0 12) s m #[(.ref a)] below meth c s₁ [] 0 0 := Stand.of_body Bd
  have e0 : s₁.heap = h0 := by rw [← hh, Bd.state]; rfl
  have N0 := Fr.nil n0
  refine go_of (A := s₁.setTop (entryFrame m #[(.ref a)] 1)) (B := s₁.setTop (mkF m 0 #[.val (.ref a)] [])) (fun _ kk' => castTop (ef_rm6 m a) kk') ?_
  refine go_of (B := (s₁.setTop (mkF m 1 #[.val (.ref a)] [(.ref a)]))) (fun _ kk => XS.aloadN X0.here hx rfl (hb hby d6_0) rfl rfl kk) ?_
  obtain ⟨T1, X1, e1, st1⟩ := initO X0 hx hZ hown (wd 37 rfl) (wd 16 rfl) (wd 17 rfl) e0 (g := (mkF m 1 #[.val (.ref a)] [(.ref a)])) rfl (by rw [hml]; rfl) rfl (hb hby d6_1) (by decide) (W := 0) (by show 2 * 0 + _ ≤ _; exact Nat.le_of_eq rfl) (by decide)
  refine go_of (B := (T1.setTop (mkF m 4 #[.val (.ref a)] []))) (st1) ?_
  refine go_end X1 (v := none) (fun _ => rfl) Bd.notSynchronized (by decide) (by decide) (Q := (Q_rm6 Z a h0 n0)) ?_ (fun fs hr => X1.returnOut hx Bd.returns (hb hby d6_4) hr)
  unfold Q_rm6
  try rw [e1]
  exact ⟨rfl, N0, rfl⟩
theorem d5_0 : decode prog_23_method_1_code 0 = .ok (.aload_n 0, 1) := by decide +kernel
theorem d5_1 : decode prog_23_method_1_code 1 = .ok (.invokespecial 1, 3) := by decide +kernel
theorem pd___V : parseMethodDescriptor "()V" = some ⟨[], none⟩ := by decide +kernel
theorem d5_4 : decode prog_23_method_1_code 4 = .ok (.aload_n 0, 1) := by decide +kernel
theorem d5_5 : decode prog_23_method_1_code 5 = .ok (.iload_n 1, 1) := by decide +kernel
theorem d5_6 : decode prog_23_method_1_code 6 = .ok (.putfield 7, 3) := by decide +kernel
theorem d5_9 : decode prog_23_method_1_code 9 = .ok (.aload_n 0, 1) := by decide +kernel
theorem d5_10 : decode prog_23_method_1_code 10 = .ok (.aload_n 2, 1) := by decide +kernel
theorem d5_11 : decode prog_23_method_1_code 11 = .ok (.putfield 13, 3) := by decide +kernel
theorem d5_14 : decode prog_23_method_1_code 14 = .ok (.return_, 1) := by decide +kernel
def Q_rm5 (Z : State) (a : Addr) (pp : Int32) (tt : Addr) (u1 : Value) (u2 : Value) (h0 : Heap) (n0 : Nat) (v : Option Value) (h : Heap) (L : List Loc) : Prop := v = none ∧ Fr n0 L ∧ Keep h0 h [a] ∧ OK Z h a pp tt
theorem pn_com_example_grantline_grantline_Permission_Key : plainName "com/example/grantline/grantline/Permission$Key" = true := by first | (simp [plainName, overriddenIn]; done) | decide +kernel
theorem ef_rm5 (m : MethodId) (a : Addr) (pp : Int32) (tt : Addr)  : entryFrame m #[(.ref a), (.int pp), (.ref tt)] 3 = mkF m 0 #[.val (.ref a), .val (.int pp), .val (.ref tt)] [] := by first | (simp [entryFrame, mkF, argsToLocals, Value.category]; done) | rfl
theorem rm5 (l : Launch) (Z : State) (a0 : Array Value) (hw : TW a0 Z) (ws : List Jvm.Cond) (a : Addr) (pp : Int32) (tt : Addr) (u1 : Value) (u2 : Value) (h0 : Heap) (n0 : Nat) (Z0 : n0 ≤ h0.size) (Ea : Exa Z h0 a "com/example/grantline/grantline/Permission$Key") (Fp : Fld Z h0 a "com/example/grantline/grantline/Permission$Key" "part" "I" u1) (Ft : Fld Z h0 a "com/example/grantline/grantline/Permission$Key" "text" "Ljava/lang/String;" u2) (g : n0 ≤ a) :
    own_MF l Z MN0 prog_23_method_1_code 3 none ws (own_R 2 0 0 24) #[(.ref a), (.int pp), (.ref tt)] h0 (Q_rm5 Z a pp tt u1 u2 h0 n0) := by
  have wd := @own_wd _ _ hw
  refine MetFree.of_bodySF (plainFor_of_name pn_com_example_grantline_grantline_Permission_Key) hisR ?_
  intro p e s m args below meth c s₁ Bd hml0 hP hK
  obtain ⟨rfl, hZ, hh⟩ := hP
  have hx := Bd.exec
  have hby := Bd.bytes
  have hml : c.maxLocals = 3 := hml0
  have hown : s.vm.findClass "com/example/grantline/grantline/Permission$Key" = some m.cls := findClass_of_methodNamed Bd.named
  have hnm := (name_of_methodNamed Bd.named Bd.method).1
  have X0 : Stand p l e (own_R 2 0 0 24) s m #[(.ref a), (.int pp), (.ref tt)] below meth c s₁ [] 0 0 := Stand.of_body Bd
  have e0 : s₁.heap = h0 := by rw [← hh, Bd.state]; rfl
  have N0 := Fr.nil n0
  have lta := own_nlt (Ea.lt)
  refine go_of (A := s₁.setTop (entryFrame m #[(.ref a), (.int pp), (.ref tt)] 3)) (B := s₁.setTop (mkF m 0 #[.val (.ref a), .val (.int pp), .val (.ref tt)] [])) (fun _ kk' => castTop (ef_rm5 m a pp tt) kk') ?_
  refine go_of (B := (s₁.setTop (mkF m 1 #[.val (.ref a), .val (.int pp), .val (.ref tt)] [(.ref a)]))) (fun _ kk => XS.aloadN X0.here hx rfl (hb hby d5_0) rfl rfl kk) ?_
  obtain ⟨_, _, ⟨T1, L1, k1, n1⟩, -, X1, ⟨Lc1, hQ1, l1, y1, z1⟩, st1⟩ := X0.specialBack hx (y := (⟨"java/lang/Record", "<init>", "()V"⟩ : MethodName)) rfl hown (mvT hZ (wd 32 rfl)) (mvT hZ (wd 33 rfl)) (mvT hZ (wd 36 rfl)) (by decide) (backOf (W := 0) (rm6 l Z a0 hw [] a h0 n0 (by first | omega | exact own_ne (by omega) | exact own_le (by omega) | exact own_lt (by omega))) hZ (wd 36 rfl) (wd 35 rfl) (by decide) (by decide)) (g := (mkF m 1 #[.val (.ref a), .val (.int pp), .val (.ref tt)] [(.ref a)])) rfl (by rw [hml]; rfl) (Steps.refl _) (a := a) (argsL := []) (rest := []) (lenOf pd___V rfl) rfl (by show 2 * 0 + _ ≤ _; exact Nat.le_of_eq rfl) (hb hby d5_1) (fun _ _ => ⟨rfl, e0, (by decide : 0 + 0 ≤ _), (by decide : 0 + 0 ≤ _)⟩)
  dsimp only [Pt.U, Pt.locs, Pt.cells, Pt.slots] at X1 l1 y1 z1 st1 hQ1
  subst l1 y1 z1
  obtain ⟨rfl, N1q, e1⟩ := hQ1
  have N1 := Fr.app N0 N1q
  refine go_tr (B := (T1.setTop (mkF m 4 #[.val (.ref a), .val (.int pp), .val (.ref tt)] []))) (st1) ?_
  refine go_of (B := (T1.setTop (mkF m 6 #[.val (.ref a), .val (.int pp), .val (.ref tt)] [(.int pp), (.ref a)]))) (fun _ kk => XS.aloadN X1.here hx rfl (hb hby d5_4) rfl rfl (XS.iloadN X1.here hx rfl (hb hby d5_5) rfl kk)) ?_
  obtain ⟨T2, h2, X2, e2, W2, st2⟩ := putF X1 hx hZ hown (host := "") (Or.inl (wd 38 rfl)) Via.refl e1 Fp Ea (Or.inr ⟨(wd 39 rfl), rfl, hnm⟩) (wd 27 rfl) (ty := .int) (by decide) rfl rfl (g := (mkF m 6 #[.val (.ref a), .val (.int pp), .val (.ref tt)] [(.int pp), (.ref a)])) rfl rfl (hb hby d5_6)
  have sz2 := W2.size
  have Fw2 := Fp.same W2
  have N2 := Fr.snoc X2 N1 (g : n0 ≤ a)
  refine go_of (B := (T2.setTop (mkF m 9 #[.val (.ref a), .val (.int pp), .val (.ref tt)] []))) (st2) ?_
  refine go_of (B := (T2.setTop (mkF m 11 #[.val (.ref a), .val (.int pp), .val (.ref tt)] [(.ref tt), (.ref a)]))) (fun _ kk => XS.aloadN X2.here hx rfl (hb hby d5_9) rfl rfl (XS.aloadN X2.here hx rfl (hb hby d5_10) rfl rfl kk)) ?_
  have cf_3 := (Ea.wr W2)
  have cf_4 := (Ft.other W2 (Or.inr (slot_ne (Or.inr (wd 41 rfl)) (Or.inr (wd 39 rfl)) (by decide) (t := (.object "java/lang/String")) (t' := .int) (by decide) (by decide))))
  obtain ⟨T5, h5, X5, e5, W5, st5⟩ := putF X2 hx hZ hown (host := "") (Or.inl (wd 40 rfl)) Via.refl e2 cf_4 cf_3 (Or.inr ⟨(wd 41 rfl), rfl, hnm⟩) (wd 27 rfl) (ty := (.object "java/lang/String")) (by decide) rfl rfl (g := (mkF m 11 #[.val (.ref a), .val (.int pp), .val (.ref tt)] [(.ref tt), (.ref a)])) rfl rfl (hb hby d5_11)
  have sz5 := W5.size
  have Fw5 := cf_4.same W5
  have N5 := Fr.snoc X5 N2 (g : n0 ≤ a)
  refine go_of (B := (T5.setTop (mkF m 14 #[.val (.ref a), .val (.int pp), .val (.ref tt)] []))) (st5) ?_
  have cf_6 := (cf_3.wr W5)
  have cf_7 := (Fw2.other W5 (Or.inr (slot_ne (Or.inr (wd 39 rfl)) (Or.inr (wd 41 rfl)) (by decide) (t := .int) (t' := (.object "java/lang/String")) (by decide) (by decide))))
  refine go_end X5 (v := none) (fun _ => rfl) Bd.notSynchronized (by decide) (by decide) (Q := (Q_rm5 Z a pp tt u1 u2 h0 n0)) ?_ (fun fs hr => X5.returnOut hx Bd.returns (hb hby d5_14) hr)
  unfold Q_rm5
  try rw [e5]
  exact ⟨rfl, N5, (((Keep.refl h0 [a]).wr W2 (Or.inl (List.mem_of_getElem? (i := 0) rfl))).wr W5 (Or.inl (List.mem_of_getElem? (i := 0) rfl))), ⟨cf_6, cf_7, Fw5⟩⟩
theorem d7_0 : decode prog_23_method_2_code 0 = .ok (.aload_n 1, 1) := by decide +kernel
theorem d7_1 : decode prog_23_method_2_code 1 = .ok (.instanceof 8, 3) := by decide +kernel
theorem d7_4 : decode prog_23_method_2_code 4 = .ok (.ifCond .eq 37, 3) := by decide +kernel
theorem d7_41 : decode prog_23_method_2_code 41 = .ok (.iconst 0, 1) := by decide +kernel
theorem d7_42 : decode prog_23_method_2_code 42 = .ok (.ireturn, 1) := by decide +kernel
def Q_eq_null (Z : State) (a : Addr) (h0 : Heap) (n0 : Nat) (v : Option Value) (h : Heap) (L : List Loc) : Prop := v = some (.int 0) ∧ Fr n0 L ∧ h = h0
theorem ef_eq_null (m : MethodId) (a : Addr)  : entryFrame m #[(.ref a), .null] 3 = mkF m 0 #[.val (.ref a), .val .null, .unset] [] := by first | (simp [entryFrame, mkF, argsToLocals, Value.category]; done) | rfl
theorem eq_null (l : Launch) (Z : State) (a0 : Array Value) (hw : TW a0 Z) (ws : List Jvm.Cond) (a : Addr) (h0 : Heap) (n0 : Nat) (Z0 : n0 ≤ h0.size)  :
    own_MF l Z MN1 prog_23_method_2_code 3 (some .boolean) ws (own_R 0 0 0 0) #[(.ref a), .null] h0 (Q_eq_null Z a h0 n0) := by
  have wd := @own_wd _ _ hw
  refine MetFree.of_bodySF (plainFor_of_name pn_com_example_grantline_grantline_Permission_Key) hisR ?_
  intro p e s m args below meth c s₁ Bd hml0 hP hK
  obtain ⟨rfl, hZ, hh⟩ := hP
  have hx := Bd.exec
  have hby := Bd.bytes
  have hml : c.maxLocals = 3 := hml0
  have hown : s.vm.findClass "com/example/grantline/grantline/Permission$Key" = some m.cls := findClass_of_methodNamed Bd.named
  have hnm := (name_of_methodNamed Bd.named Bd.method).1
  have X0 : Stand p l e (own_R 0 0 0 0) s m #[(.ref a), .null] below meth c s₁ [] 0 0 := Stand.of_body Bd
  have e0 : s₁.heap = h0 := by rw [← hh, Bd.state]; rfl
  have N0 := Fr.nil n0
  refine go_of (A := s₁.setTop (entryFrame m #[(.ref a), .null] 3)) (B := s₁.setTop (mkF m 0 #[.val (.ref a), .val .null, .unset] [])) (fun _ kk' => castTop (ef_eq_null m a) kk') ?_
  refine go_of (B := (s₁.setTop (mkF m 42 #[.val (.ref a), .val .null, .unset] [(.int (0 : Int32))]))) (fun _ kk => XS.aloadN X0.here hx rfl (hb hby d7_0) rfl rfl (X0.instanceofNull hx (g := (mkF m 1 #[.val (.ref a), .val .null, .unset] [.null])) rfl rfl (hb hby d7_1) _ (XS.ifYes X0.here hx rfl (pc0 := 4) (pc' := 41) rfl (hb hby d7_4) rfl ((if0 _ _).trans (teq (by decide : (0 : Int32) = (0 : Int32))).1) (by decide) (by decide) (XS.iconst X0.here hx rfl (hb hby d7_41) kk)))) ?_
  refine go_end X0 (v := some (.int (nar .boolean (0 : Int32)))) (fun h => by rw [Bd.returns] at h; cases h) Bd.notSynchronized (by decide) (by decide) (Q := (Q_eq_null Z a h0 n0)) ?_ (fun fs hr => retN X0 hx (t := .boolean) Bd.returns (by simp) (hb hby d7_42) hr)
  unfold Q_eq_null
  try rw [e0]
  exact ⟨rfl, N0, rfl⟩
def Q_eq_other (Z : State) (a : Addr) (bb : Addr) (h0 : Heap) (n0 : Nat) (v : Option Value) (h : Heap) (L : List Loc) : Prop := v = some (.int 0) ∧ Fr n0 L ∧ h = h0
theorem ef_eq_other (m : MethodId) (a : Addr) (bb : Addr)  : entryFrame m #[(.ref a), (.ref bb)] 3 = mkF m 0 #[.val (.ref a), .val (.ref bb), .unset] [] := by first | (simp [entryFrame, mkF, argsToLocals, Value.category]; done) | rfl
theorem eq_other (l : Launch) (Z : State) (a0 : Array Value) (hw : TW a0 Z) (ws : List Jvm.Cond) (a : Addr) (bb : Addr) (h0 : Heap) (n0 : Nat) (Z0 : n0 ≤ h0.size) (Eb : Exa Z h0 bb "java/lang/String") :
    own_MF l Z MN1 prog_23_method_2_code 3 (some .boolean) ws (own_R 0 0 0 0) #[(.ref a), (.ref bb)] h0 (Q_eq_other Z a bb h0 n0) := by
  have wd := @own_wd _ _ hw
  refine MetFree.of_bodySF (plainFor_of_name pn_com_example_grantline_grantline_Permission_Key) hisR ?_
  intro p e s m args below meth c s₁ Bd hml0 hP hK
  obtain ⟨rfl, hZ, hh⟩ := hP
  have hx := Bd.exec
  have hby := Bd.bytes
  have hml : c.maxLocals = 3 := hml0
  have hown : s.vm.findClass "com/example/grantline/grantline/Permission$Key" = some m.cls := findClass_of_methodNamed Bd.named
  have hnm := (name_of_methodNamed Bd.named Bd.method).1
  have X0 : Stand p l e (own_R 0 0 0 0) s m #[(.ref a), (.ref bb)] below meth c s₁ [] 0 0 := Stand.of_body Bd
  have e0 : s₁.heap = h0 := by rw [← hh, Bd.state]; rfl
  have N0 := Fr.nil n0
  refine go_of (A := s₁.setTop (entryFrame m #[(.ref a), (.ref bb)] 3)) (B := s₁.setTop (mkF m 0 #[.val (.ref a), .val (.ref bb), .unset] [])) (fun _ kk' => castTop (ef_eq_other m a bb) kk') ?_
  refine go_of (B := (s₁.setTop (mkF m 1 #[.val (.ref a), .val (.ref bb), .unset] [(.ref bb)]))) (fun _ kk => XS.aloadN X0.here hx rfl (hb hby d7_0) rfl rfl kk) ?_
  obtain ⟨T1, X1, e1, st1⟩ := instNo X0 hx hZ hown (wd 47 rfl) e0 Eb (own_nsno (wd 82 rfl) (wd 27 rfl) (NS.step (wd 82 rfl) (own_nsroot (wd 83 rfl) (wd 27 rfl) (by decide)) (by decide)) (by decide)) (g := (mkF m 1 #[.val (.ref a), .val (.ref bb), .unset] [(.ref bb)])) rfl rfl (hb hby d7_1)
  refine go_of (B := (T1.setTop (mkF m 4 #[.val (.ref a), .val (.ref bb), .unset] [(.int (0 : Int32))]))) (st1) ?_
  refine go_of (B := (T1.setTop (mkF m 42 #[.val (.ref a), .val (.ref bb), .unset] [(.int (0 : Int32))]))) (fun _ kk => XS.ifYes X1.here hx rfl (pc0 := 4) (pc' := 41) rfl (hb hby d7_4) rfl ((if0 _ _).trans (teq (by decide : (0 : Int32) = (0 : Int32))).1) (by decide) (by decide) (XS.iconst X1.here hx rfl (hb hby d7_41) kk)) ?_
  refine go_end X1 (v := some (.int (nar .boolean (0 : Int32)))) (fun h => by rw [Bd.returns] at h; cases h) Bd.notSynchronized (by decide) (by decide) (Q := (Q_eq_other Z a bb h0 n0)) ?_ (fun fs hr => retN X1 hx (t := .boolean) Bd.returns (by simp) (hb hby d7_42) hr)
  unfold Q_eq_other
  try rw [e1]
  exact ⟨rfl, N0, rfl⟩
theorem d7_7 : decode prog_23_method_2_code 7 = .ok (.aload_n 1, 1) := by decide +kernel
theorem d7_8 : decode prog_23_method_2_code 8 = .ok (.checkcast 8, 3) := by decide +kernel
theorem d7_11 : decode prog_23_method_2_code 11 = .ok (.astore_n 2, 1) := by decide +kernel
theorem d7_12 : decode prog_23_method_2_code 12 = .ok (.aload_n 0, 1) := by decide +kernel
theorem d7_13 : decode prog_23_method_2_code 13 = .ok (.getfield 7, 3) := by decide +kernel
theorem d7_16 : decode prog_23_method_2_code 16 = .ok (.aload_n 2, 1) := by decide +kernel
theorem d7_17 : decode prog_23_method_2_code 17 = .ok (.getfield 7, 3) := by decide +kernel
theorem d7_20 : decode prog_23_method_2_code 20 = .ok (.if_icmp .ne 21, 3) := by decide +kernel
theorem d7_23 : decode prog_23_method_2_code 23 = .ok (.aload_n 0, 1) := by decide +kernel
theorem d7_24 : decode prog_23_method_2_code 24 = .ok (.getfield 13, 3) := by decide +kernel
theorem d7_27 : decode prog_23_method_2_code 27 = .ok (.aload_n 2, 1) := by decide +kernel
theorem d7_28 : decode prog_23_method_2_code 28 = .ok (.getfield 13, 3) := by decide +kernel
theorem d7_31 : decode prog_23_method_2_code 31 = .ok (.invokevirtual 17, 3) := by decide +kernel
theorem pd__Ljava_lang_Object__Z : parseMethodDescriptor "(Ljava/lang/Object;)Z" = some ⟨[(.object "java/lang/Object")], some .boolean⟩ := by decide +kernel
theorem d7_34 : decode prog_23_method_2_code 34 = .ok (.ifCond .eq 7, 3) := by decide +kernel
def Q_eq_same (Z : State) (a : Addr) (bb : Addr) (u1 : Int32) (u2 : Int32) (t1 : Addr) (t2 : Addr) (cs : List Int32) (ds : List Int32) (gC : Int32) (h0 : Heap) (n0 : Nat) (v : Option Value) (h : Heap) (L : List Loc) : Prop := v = some (.int (own_keq u1 u2 cs ds)) ∧ Fr n0 L ∧ h = h0
theorem d7_37 : decode prog_23_method_2_code 37 = .ok (.iconst 1, 1) := by decide +kernel
theorem d7_38 : decode prog_23_method_2_code 38 = .ok (.goto 4, 3) := by decide +kernel
theorem ef_eq_same (m : MethodId) (a : Addr) (bb : Addr)  : entryFrame m #[(.ref a), (.ref bb)] 3 = mkF m 0 #[.val (.ref a), .val (.ref bb), .unset] [] := by first | (simp [entryFrame, mkF, argsToLocals, Value.category]; done) | rfl
theorem eq_same (l : Launch) (Z : State) (a0 : Array Value) (hw : TW a0 Z) (ws : List Jvm.Cond) (a : Addr) (bb : Addr) (u1 : Int32) (u2 : Int32) (t1 : Addr) (t2 : Addr) (cs : List Int32) (ds : List Int32) (gC : Int32) (h0 : Heap) (n0 : Nat) (Z0 : n0 ≤ h0.size) (O : Old Z n0 h0) (SC : Sta Z Z.heap "java/lang/String" "COMPACT_STRINGS" "Z" (.int gC)) (hgC : ¬ gC = (0 : Int32)) (A : OK Z h0 a u1 t1) (B : OK Z h0 bb u2 t2) (SA : StrL Z h0 t1 cs) (SB : StrL Z h0 t2 ds) (hheq : t1 = t2 → cs = ds) :
    own_MF l Z MN1 prog_23_method_2_code 3 (some .boolean) ws (own_R 2 0 0 28) #[(.ref a), (.ref bb)] h0 (Q_eq_same Z a bb u1 u2 t1 t2 cs ds gC h0 n0) := by
  have wd := @own_wd _ _ hw
  refine MetFree.of_bodySF (plainFor_of_name pn_com_example_grantline_grantline_Permission_Key) hisR ?_
  intro p e s m args below meth c s₁ Bd hml0 hP hK
  obtain ⟨rfl, hZ, hh⟩ := hP
  have hx := Bd.exec
  have hby := Bd.bytes
  have hml : c.maxLocals = 3 := hml0
  have hown : s.vm.findClass "com/example/grantline/grantline/Permission$Key" = some m.cls := findClass_of_methodNamed Bd.named
  have hnm := (name_of_methodNamed Bd.named Bd.method).1
  have X0 : Stand p l e (own_R 2 0 0 28) s m #[(.ref a), (.ref bb)] below meth c s₁ [] 0 0 := Stand.of_body Bd
  have e0 : s₁.heap = h0 := by rw [← hh, Bd.state]; rfl
  have N0 := Fr.nil n0
  refine go_of (A := s₁.setTop (entryFrame m #[(.ref a), (.ref bb)] 3)) (B := s₁.setTop (mkF m 0 #[.val (.ref a), .val (.ref bb), .unset] [])) (fun _ kk' => castTop (ef_eq_same m a bb) kk') ?_
  refine go_of (B := (s₁.setTop (mkF m 1 #[.val (.ref a), .val (.ref bb), .unset] [(.ref bb)]))) (fun _ kk => XS.aloadN X0.here hx rfl (hb hby d7_0) rfl rfl kk) ?_
  obtain ⟨T1, X1, e1, st1⟩ := instY X0 hx hZ hown (wd 47 rfl) e0 (Ins.self B.1) (g := (mkF m 1 #[.val (.ref a), .val (.ref bb), .unset] [(.ref bb)])) rfl rfl (hb hby d7_1)
  refine go_of (B := (T1.setTop (mkF m 4 #[.val (.ref a), .val (.ref bb), .unset] [(.int (1 : Int32))]))) (st1) ?_
  refine go_of (B := (T1.setTop (mkF m 8 #[.val (.ref a), .val (.ref bb), .unset] [(.ref bb)]))) (fun _ kk => XS.ifNo X1.here hx rfl (hb hby d7_4) rfl ((if0 _ _).trans (feq (by decide : ¬ ((1 : Int32) = (0 : Int32)))).1) (XS.aloadN X1.here hx rfl (hb hby d7_7) rfl rfl kk)) ?_
  obtain ⟨T2, X2, e2, st2⟩ := castY X1 hx hZ hown (wd 47 rfl) e1 (Ins.self B.1) (g := (mkF m 8 #[.val (.ref a), .val (.ref bb), .unset] [(.ref bb)])) rfl rfl (hb hby d7_8)
  refine go_of (B := (T2.setTop (mkF m 11 #[.val (.ref a), .val (.ref bb), .unset] [(.ref bb)]))) (st2) ?_
  refine go_of (B := (T2.setTop (mkF m 13 #[.val (.ref a), .val (.ref bb), .val (.ref bb)] [(.ref a)]))) (fun _ kk => XS.astoreN X2.here hx rfl (hb hby d7_11) rfl rfl rfl (XS.aloadN X2.here hx rfl (hb hby d7_12) rfl rfl kk)) ?_
  obtain ⟨T3, X3, e3, st3⟩ := getF X2 hx hZ hown (host := "") (Or.inl (wd 38 rfl)) Via.refl e2 A.2.1 (g := (mkF m 13 #[.val (.ref a), .val (.ref bb), .val (.ref bb)] [(.ref a)])) rfl rfl (hb hby d7_13)
  refine go_of (B := (T3.setTop (mkF m 16 #[.val (.ref a), .val (.ref bb), .val (.ref bb)] [(.int u1)]))) (st3) ?_
  refine go_of (B := (T3.setTop (mkF m 17 #[.val (.ref a), .val (.ref bb), .val (.ref bb)] [(.ref bb), (.int u1)]))) (fun _ kk => XS.aloadN X3.here hx rfl (hb hby d7_16) rfl rfl kk) ?_
  obtain ⟨T4, X4, e4, st4⟩ := getF X3 hx hZ hown (host := "") (Or.inl (wd 38 rfl)) Via.refl e3 B.2.1 (g := (mkF m 17 #[.val (.ref a), .val (.ref bb), .val (.ref bb)] [(.ref bb), (.int u1)])) rfl rfl (hb hby d7_17)
  refine go_of (B := (T4.setTop (mkF m 20 #[.val (.ref a), .val (.ref bb), .val (.ref bb)] [(.int u2), (.int u1)]))) (st4) ?_
  by_cases hcc5 : u1 = u2
  · refine go_of (B := (T4.setTop (mkF m 24 #[.val (.ref a), .val (.ref bb), .val (.ref bb)] [(.ref a)]))) (fun _ kk => XS.icmpNo X4.here hx rfl (hb hby d7_20) rfl (teq hcc5).2 (XS.aloadN X4.here hx rfl (hb hby d7_23) rfl rfl kk)) ?_
    obtain ⟨T6, X6, e6, st6⟩ := getF X4 hx hZ hown (host := "") (Or.inl (wd 40 rfl)) Via.refl e4 A.2.2 (g := (mkF m 24 #[.val (.ref a), .val (.ref bb), .val (.ref bb)] [(.ref a)])) rfl rfl (hb hby d7_24)
    refine go_of (B := (T6.setTop (mkF m 27 #[.val (.ref a), .val (.ref bb), .val (.ref bb)] [(.ref t1)]))) (st6) ?_
    refine go_of (B := (T6.setTop (mkF m 28 #[.val (.ref a), .val (.ref bb), .val (.ref bb)] [(.ref bb), (.ref t1)]))) (fun _ kk => XS.aloadN X6.here hx rfl (hb hby d7_27) rfl rfl kk) ?_
    obtain ⟨T7, X7, e7, st7⟩ := getF X6 hx hZ hown (host := "") (Or.inl (wd 40 rfl)) Via.refl e6 B.2.2 (g := (mkF m 28 #[.val (.ref a), .val (.ref bb), .val (.ref bb)] [(.ref bb), (.ref t1)])) rfl rfl (hb hby d7_28)
    refine go_of (B := (T7.setTop (mkF m 31 #[.val (.ref a), .val (.ref bb), .val (.ref bb)] [(.ref t2), (.ref t1)]))) (st7) ?_
    obtain ⟨cq8, kq8, q8a, q8b, q8c⟩ := isOf hZ e7 SA.exa
    obtain ⟨_, _, ⟨T8, L8, k8, n8⟩, -, X8, ⟨Lc8, hQ8, l8, y8, z8⟩, st8⟩ := X7.virtualBack hx (y := MN5) (z := MN5) hown (mvT hZ (wd 74 rfl)) (mvT hZ (wd 75 rfl)) (notFace_of_selects (args := #[]) (mvT hZ (wd 77 rfl))) (mvT hZ (wd 77 rfl)) (mvT hZ (wd 76 rfl)) (by decide) (backOf (W := 0) (str_eq l Z a0 hw [] t1 t2 cs ds gC h0 n0 Z0 O SC hgC SA SB hheq) hZ (wd 78 rfl) (wd 6 rfl) (by decide) (by decide)) q8a q8c (g := (mkF m 31 #[.val (.ref a), .val (.ref bb), .val (.ref bb)] [(.ref t2), (.ref t1)])) rfl (by rw [hml]; rfl) (Steps.refl _) (argsL := [(.ref t2)]) (rest := []) (lenOf pd__Ljava_lang_Object__Z rfl) rfl (by show 2 * 0 + _ ≤ _; exact Nat.le_of_eq rfl) (hb hby d7_31) (fun _ _ => ⟨rfl, e7, (by decide : 0 + 0 ≤ _), (by decide : 0 + 0 ≤ _)⟩)
    dsimp only [Pt.U, Pt.locs, Pt.cells, Pt.slots] at X8 l8 y8 z8 st8 hQ8
    subst l8 y8 z8
    obtain ⟨rfl, N8q, e8⟩ := hQ8
    have N8 := Fr.app N0 N8q
    refine go_tr (B := (T8.setTop (mkF m 34 #[.val (.ref a), .val (.ref bb), .val (.ref bb)] [(.int (own_eqv cs ds))]))) (st8) ?_
    by_cases hcc9 : (own_eqv cs ds) = (0 : Int32)
    · refine go_of (B := (T8.setTop (mkF m 42 #[.val (.ref a), .val (.ref bb), .val (.ref bb)] [(.int (0 : Int32))]))) (fun _ kk => XS.ifYes X8.here hx rfl (pc0 := 34) (pc' := 41) rfl (hb hby d7_34) rfl ((if0 _ _).trans (teq hcc9).1) (by decide) (by decide) (XS.iconst X8.here hx rfl (hb hby d7_41) kk)) ?_
      refine go_end X8 (v := some (.int (nar .boolean (0 : Int32)))) (fun h => by rw [Bd.returns] at h; cases h) Bd.notSynchronized (by decide) (by decide) (Q := (Q_eq_same Z a bb u1 u2 t1 t2 cs ds gC h0 n0)) ?_ (fun fs hr => retN X8 hx (t := .boolean) Bd.returns (by simp) (hb hby d7_42) hr)
      unfold Q_eq_same
      try rw [e8]
      refine ⟨?_, N8, rfl⟩
      rw [own_keq, if_pos hcc5, hcc9]; rfl
    · refine go_of (B := (T8.setTop (mkF m 42 #[.val (.ref a), .val (.ref bb), .val (.ref bb)] [(.int (1 : Int32))]))) (fun _ kk => XS.ifNo X8.here hx rfl (hb hby d7_34) rfl ((if0 _ _).trans (feq hcc9).1) (XS.iconst X8.here hx rfl (hb hby d7_37) (XS.goto X8.here hx rfl (pc0 := 38) (pc' := 42) rfl (hb hby d7_38) (by decide) (by decide) kk))) ?_
      refine go_end X8 (v := some (.int (nar .boolean (1 : Int32)))) (fun h => by rw [Bd.returns] at h; cases h) Bd.notSynchronized (by decide) (by decide) (Q := (Q_eq_same Z a bb u1 u2 t1 t2 cs ds gC h0 n0)) ?_ (fun fs hr => retN X8 hx (t := .boolean) Bd.returns (by simp) (hb hby d7_42) hr)
      unfold Q_eq_same
      try rw [e8]
      refine ⟨?_, N8, rfl⟩
      rw [own_keq, if_pos hcc5, own_eqv1 hcc9]; rfl
  · refine go_of (B := (T4.setTop (mkF m 42 #[.val (.ref a), .val (.ref bb), .val (.ref bb)] [(.int (0 : Int32))]))) (fun _ kk => XS.icmpYes X4.here hx rfl (pc0 := 20) (pc' := 41) rfl (hb hby d7_20) rfl (feq hcc5).2 (by decide) (by decide) (XS.iconst X4.here hx rfl (hb hby d7_41) kk)) ?_
    refine go_end X4 (v := some (.int (nar .boolean (0 : Int32)))) (fun h => by rw [Bd.returns] at h; cases h) Bd.notSynchronized (by decide) (by decide) (Q := (Q_eq_same Z a bb u1 u2 t1 t2 cs ds gC h0 n0)) ?_ (fun fs hr => retN X4 hx (t := .boolean) Bd.returns (by simp) (hb hby d7_42) hr)
    unfold Q_eq_same
    try rw [e4]
    refine ⟨?_, N0, rfl⟩
    rw [own_keq, if_neg hcc5]; rfl
theorem pd__ICC_Ljava_lang_String_ : parseMethodDescriptor "(ICC)Ljava/lang/String;" = some ⟨[.int, .char, .char], some (.object "java/lang/String")⟩ := by decide +kernel
theorem pd__ILjava_lang_String__V : parseMethodDescriptor "(ILjava/lang/String;)V" = some ⟨[.int, (.object "java/lang/String")], none⟩ := by decide +kernel
def Q_rm0 (Z : State) (p1 : Int32) (p2 : Int32) (av : Int32) (bv : Int32) (md : Int32) (gC : Int32) (h0 : Heap) (n0 : Nat) (v : Option Value) (h : Heap) (L : List Loc) : Prop := v = some (.int 1) ∧ Fr n0 L
theorem lw93 {p : Program} {l : Launch} {e : Env} {s : State} {m : MethodId} {args : Array Value} {below : List Frame} {meth : Method} {c : Code} {Z : State} {a0 : Array Value} {h0 : Heap} {n0 : Nat} (p1 : Int32) (p2 : Int32) (av : Int32) (bv : Int32) (md : Int32) (l1 : Int32) (l2 : Int32) (x0 : Int32) (x1 : Int32) (y0 : Int32) (y1 : Int32) (q : Int32) (gC : Int32) {T0 : State} {locs : List Loc}
    (X0 : Stand p l e room_1 s m args below meth c T0 locs 0 0) (hx : p.tables.exec = Jvm.exec) (hZ : Z.Warmed39 s.vm) (hw : TW a0 Z) (hby : c.code = code) (hml : c.maxLocals = 19) (hown : s.vm.findClass "com/example/grantline/grantline/PermissionKeyEqualsPinLaw" = some m.cls) (hret : meth.sig.returnType = (some .boolean)) (hlk : meth.locks = false) (e0 : T0.heap = h0) (N0 : Fr n0 locs) (Z0 : n0 ≤ h0.size) (O : Old Z n0 h0) (SC : Sta Z Z.heap "java/lang/String" "COMPACT_STRINGS" "Z" (.int gC)) (hgC : ¬ gC = (0 : Int32)) (hl1 : l1 = 0 ∨ l1 = 1 ∨ l1 = 2) (hl2 : l2 = 0 ∨ l2 = 1 ∨ l2 = 2) (hx0 : ¬ x0 < 0 ∧ ¬ (255 : Int32) < x0) (hx1 : ¬ x1 < 0 ∧ ¬ (255 : Int32) < x1) (hy0 : ¬ y0 < 0 ∧ ¬ (255 : Int32) < y0) (hy1 : ¬ y1 < 0 ∧ ¬ (255 : Int32) < y1) (hh0 : s.heap = h0) (hCH : CHv Z own_EL s.vm h0) :
    Go p e below (T0.setTop (mkF m 93 #[.val (.int p1), .val (.int p2), .val (.int av), .val (.int bv), .val (.int md), .val (.int l1), .val (.int l2), .val (.int x0), .val (.int x1), .val (.int y0), .val (.int y1), .val (.int q), .unset, .unset, .unset, .unset, .unset, .unset, .unset] [])) (fun oo' U2' => ∃ vv' LL', oo' = .returned vv' ∧ (Q_rm0 Z p1 p2 av bv md gC h0 n0) vv' U2'.heap LL' ∧ CHr Z own_EL s.vm s.heap U2'.vm U2'.heap ∧ ReturnedEndW s oo' U2' LL' room_1.cells room_1.slots) := by
  have wd := @own_wd _ _ hw
  have X0 : Stand p l e room_1 (s.setVm s.vm) m args below meth c T0 locs 0 0 := X0
  have hS : s.Since s.vm 0 := (State.WarmedH.refl s).since 0
  have hEL := own_EW hw
  have HC0 := CHr.refl hCH
  refine go_of (B := (T0.setTop (mkF m 102 #[.val (.int p1), .val (.int p2), .val (.int av), .val (.int bv), .val (.int md), .val (.int l1), .val (.int l2), .val (.int x0), .val (.int x1), .val (.int y0), .val (.int y1), .val (.int q), .val (.int (((md.toUInt32 >>> ((6 : Int32) &&& 31).toUInt32).toInt32) &&& (3 : Int32))), .unset, .unset, .unset, .unset, .unset, .unset] []))) (fun _ kk => XS.iload X0.here hx rfl (hb hby at_93) rfl (XS.bipush X0.here hx rfl (hb hby at_95) (XS.iushr X0.here hx rfl (hb hby at_97) rfl (XS.iconst X0.here hx rfl (hb hby at_98) (XS.iand X0.here hx rfl (hb hby at_99) rfl (XS.istore X0.here hx rfl (hb hby at_100) rfl rfl kk)))))) ?_
  refine go_of (B := (T0.setTop (mkF m 108 #[.val (.int p1), .val (.int p2), .val (.int av), .val (.int bv), .val (.int md), .val (.int l1), .val (.int l2), .val (.int x0), .val (.int x1), .val (.int y0), .val (.int y1), .val (.int q), .val (.int (((md.toUInt32 >>> ((6 : Int32) &&& 31).toUInt32).toInt32) &&& (3 : Int32))), .unset, .unset, .unset, .unset, .unset, .unset] [(.int x1), (.int x0), (.int l1)]))) (fun _ kk => XS.iload X0.here hx rfl (hb hby at_102) rfl (XS.iload X0.here hx rfl (hb hby at_104) rfl (XS.iload X0.here hx rfl (hb hby at_106) rfl kk))) ?_
  obtain ⟨_, _, ⟨T1, L1, k1, n1⟩, -, X1', hS1', gr1, ⟨Lc1, hQ1, l1, y1, z1, HR1⟩, st1⟩ := callSS X0 hx (y := MN2) hown (mvT hZ (wd 0 rfl)) (mvT hZ (wd 1 rfl)) (mvT hZ (wd 2 rfl)) (mvT hZ (wd 3 rfl)) (by decide) (backOfSH (W := 0) (rm1 l Z a0 hw [] l1 x0 x1 gC h0 n0 (by first | omega | exact own_ne (by omega) | exact own_le (by omega) | exact own_lt (by omega)) O SC hgC hx0 hx1) hZ (wd 3 rfl) (wd 2 rfl) (by decide) (by decide) hEL HC0.1) (g := (mkF m 108 #[.val (.int p1), .val (.int p2), .val (.int av), .val (.int bv), .val (.int md), .val (.int l1), .val (.int l2), .val (.int x0), .val (.int x1), .val (.int y0), .val (.int y1), .val (.int q), .val (.int (((md.toUInt32 >>> ((6 : Int32) &&& 31).toUInt32).toInt32) &&& (3 : Int32))), .unset, .unset, .unset, .unset, .unset, .unset] [(.int x1), (.int x0), (.int l1)])) rfl (by rw [hml]; rfl) (argsL := [(.int l1), (.int x0), (.int x1)]) (rest := []) (lenOf pd__ICC_Ljava_lang_String_ rfl) rfl (by show 2 * 0 + _ ≤ _; exact Nat.le_of_eq rfl) (hb hby at_108) (fun _ _ => ⟨rfl, e0, (by decide : 0 + 6 ≤ _), (by decide : 0 + 12 ≤ _)⟩)
  dsimp only [Pt.U, Pt.locs, Pt.cells, Pt.slots] at X1' hS1' gr1 l1 y1 z1 st1 hQ1 HR1
  subst l1 y1 z1
  have X1 : Stand _ _ _ _ (s.setVm T1.vm) _ _ _ _ _ T1 _ _ _ := X1'
  have hS : s.Since T1.vm T1.heap.size := foldS hS (by rw [e0]; omega) hS1' gr1
  have hZ : Z.Warmed39 (s.setVm T1.vm).vm := State.Warmed39.trans (t := s.setVm s.vm) hZ hS1'.1
  have hown : (s.setVm T1.vm).vm.findClass "com/example/grantline/grantline/PermissionKeyEqualsPinLaw" = some m.cls := by rw [show (s.setVm T1.vm).vm = T1.vm from rfl, hS1'.1.alike.findClass]; exact hown
  obtain ⟨b1, rfl, N1q, lo1, K1, S1⟩ := hQ1
  have lo1 := own_nle lo1
  have N1 := Fr.app N0 N1q
  have hi1 := own_nlt (S1.exa.lt)
  have sz1 := K1.1
  have HC1 := HC0.trans HR1
  refine go_tr (B := (T1.setTop (mkF m 111 #[.val (.int p1), .val (.int p2), .val (.int av), .val (.int bv), .val (.int md), .val (.int l1), .val (.int l2), .val (.int x0), .val (.int x1), .val (.int y0), .val (.int y1), .val (.int q), .val (.int (((md.toUInt32 >>> ((6 : Int32) &&& 31).toUInt32).toInt32) &&& (3 : Int32))), .unset, .unset, .unset, .unset, .unset, .unset] [(.ref b1)]))) (st1) ?_
  refine go_of (B := (T1.setTop (mkF m 119 #[.val (.int p1), .val (.int p2), .val (.int av), .val (.int bv), .val (.int md), .val (.int l1), .val (.int l2), .val (.int x0), .val (.int x1), .val (.int y0), .val (.int y1), .val (.int q), .val (.int (((md.toUInt32 >>> ((6 : Int32) &&& 31).toUInt32).toInt32) &&& (3 : Int32))), .val (.ref b1), .unset, .unset, .unset, .unset, .unset] [(.int y1), (.int y0), (.int l2)]))) (fun _ kk => XS.astore X1.here hx rfl (hb hby at_111) rfl rfl rfl (XS.iload X1.here hx rfl (hb hby at_113) rfl (XS.iload X1.here hx rfl (hb hby at_115) rfl (XS.iload X1.here hx rfl (hb hby at_117) rfl kk)))) ?_
  have cf_2 := (O.keep K1 all0)
  obtain ⟨_, _, ⟨T3, L3, k3, n3⟩, -, X3', hS3', gr3, ⟨Lc3, hQ3, l3, y3, z3, HR3⟩, st3⟩ := callSS X1 hx (y := MN2) hown (mvT hZ (wd 0 rfl)) (mvT hZ (wd 1 rfl)) (mvT hZ (wd 2 rfl)) (mvT hZ (wd 3 rfl)) (by decide) (backOfSH (W := 0) (rm1 l Z a0 hw [] l2 y0 y1 gC T1.heap n0 (by first | omega | exact own_ne (by omega) | exact own_le (by omega) | exact own_lt (by omega)) cf_2 SC hgC hy0 hy1) hZ (wd 3 rfl) (wd 2 rfl) (by decide) (by decide) hEL HC1.1) (g := (mkF m 119 #[.val (.int p1), .val (.int p2), .val (.int av), .val (.int bv), .val (.int md), .val (.int l1), .val (.int l2), .val (.int x0), .val (.int x1), .val (.int y0), .val (.int y1), .val (.int q), .val (.int (((md.toUInt32 >>> ((6 : Int32) &&& 31).toUInt32).toInt32) &&& (3 : Int32))), .val (.ref b1), .unset, .unset, .unset, .unset, .unset] [(.int y1), (.int y0), (.int l2)])) rfl (by rw [hml]; rfl) (argsL := [(.int l2), (.int y0), (.int y1)]) (rest := []) (lenOf pd__ICC_Ljava_lang_String_ rfl) rfl (by show 2 * 0 + _ ≤ _; exact Nat.le_of_eq rfl) (hb hby at_119) (fun _ _ => ⟨rfl, rfl, (by decide : 6 + 6 ≤ _), (by decide : 12 + 12 ≤ _)⟩)
  dsimp only [Pt.U, Pt.locs, Pt.cells, Pt.slots] at X3' hS3' gr3 l3 y3 z3 st3 hQ3 HR3
  subst l3 y3 z3
  have X3 : Stand _ _ _ _ (s.setVm T3.vm) _ _ _ _ _ T3 _ _ _ := X3'
  have hS : s.Since T3.vm T3.heap.size := foldS hS (by first | omega | exact own_ne (by omega) | exact own_le (by omega) | exact own_lt (by omega)) hS3' gr3
  have hZ : Z.Warmed39 (s.setVm T3.vm).vm := State.Warmed39.trans (t := s.setVm T1.vm) hZ hS3'.1
  have hown : (s.setVm T3.vm).vm.findClass "com/example/grantline/grantline/PermissionKeyEqualsPinLaw" = some m.cls := by rw [show (s.setVm T3.vm).vm = T3.vm from rfl, hS3'.1.alike.findClass]; exact hown
  obtain ⟨b3, rfl, N3q, lo3, K3, S3⟩ := hQ3
  have lo3 := own_nle lo3
  have N3 := Fr.app N1 N3q
  have hi3 := own_nlt (S3.exa.lt)
  have sz3 := K3.1
  have HC3 := HC1.trans HR3
  refine go_tr (B := (T3.setTop (mkF m 122 #[.val (.int p1), .val (.int p2), .val (.int av), .val (.int bv), .val (.int md), .val (.int l1), .val (.int l2), .val (.int x0), .val (.int x1), .val (.int y0), .val (.int y1), .val (.int q), .val (.int (((md.toUInt32 >>> ((6 : Int32) &&& 31).toUInt32).toInt32) &&& (3 : Int32))), .val (.ref b1), .unset, .unset, .unset, .unset, .unset] [(.ref b3)]))) (st3) ?_
  refine go_of (B := (T3.setTop (mkF m 124 #[.val (.int p1), .val (.int p2), .val (.int av), .val (.int bv), .val (.int md), .val (.int l1), .val (.int l2), .val (.int x0), .val (.int x1), .val (.int y0), .val (.int y1), .val (.int q), .val (.int (((md.toUInt32 >>> ((6 : Int32) &&& 31).toUInt32).toInt32) &&& (3 : Int32))), .val (.ref b1), .val (.ref b3), .unset, .unset, .unset, .unset] []))) (fun _ kk => XS.astore X3.here hx rfl (hb hby at_122) rfl rfl rfl kk) ?_
  obtain ⟨T4, h4, X4, e4, E4, A4, D4, -, st4⟩ := newO X3 hx hZ hown (wd 26 rfl) (wd 27 rfl) (wd 28 rfl) rfl (g := (mkF m 124 #[.val (.int p1), .val (.int p2), .val (.int av), .val (.int bv), .val (.int md), .val (.int l1), .val (.int l2), .val (.int x0), .val (.int x1), .val (.int y0), .val (.int y1), .val (.int q), .val (.int (((md.toUInt32 >>> ((6 : Int32) &&& 31).toUInt32).toInt32) &&& (3 : Int32))), .val (.ref b1), .val (.ref b3), .unset, .unset, .unset, .unset] [])) rfl (hb hby at_124) (by decide) (by decide)
  obtain ⟨b4, g4⟩ : ∃ z, z = T3.heap.size := ⟨_, rfl⟩
  rw [← g4] at A4 D4 st4
  have hi4 := own_nlt A4.lt
  have sz4 := E4.1
  have HC4 := HC3.trans (CHr.ext E4 HC3.1)
  have F4_part : Fld Z h4 b4 "com/example/grantline/grantline/Permission$Key" "part" "I" (.int (0 : Int32)) := D4 (Or.inr (wd 39 rfl)) (ty := .int) (by decide)
  have F4_text : Fld Z h4 b4 "com/example/grantline/grantline/Permission$Key" "text" "Ljava/lang/String;" .null := D4 (Or.inr (wd 41 rfl)) (ty := (.object "java/lang/String")) (by decide)
  refine go_of (B := (T4.setTop (mkF m 127 #[.val (.int p1), .val (.int p2), .val (.int av), .val (.int bv), .val (.int md), .val (.int l1), .val (.int l2), .val (.int x0), .val (.int x1), .val (.int y0), .val (.int y1), .val (.int q), .val (.int (((md.toUInt32 >>> ((6 : Int32) &&& 31).toUInt32).toInt32) &&& (3 : Int32))), .val (.ref b1), .val (.ref b3), .unset, .unset, .unset, .unset] [(.ref b4)]))) (st4) ?_
  refine go_of (B := (T4.setTop (mkF m 131 #[.val (.int p1), .val (.int p2), .val (.int av), .val (.int bv), .val (.int md), .val (.int l1), .val (.int l2), .val (.int x0), .val (.int x1), .val (.int y0), .val (.int y1), .val (.int q), .val (.int (((md.toUInt32 >>> ((6 : Int32) &&& 31).toUInt32).toInt32) &&& (3 : Int32))), .val (.ref b1), .val (.ref b3), .unset, .unset, .unset, .unset] [(.ref b1), (.int p1), (.ref b4), (.ref b4)]))) (fun _ kk => XS.dup X4.here hx rfl (hb hby at_127) rfl rfl (XS.iloadN X4.here hx rfl (hb hby at_128) rfl (XS.aload X4.here hx rfl (hb hby at_129) rfl rfl kk))) ?_
  obtain ⟨_, _, ⟨T5, L5, k5, n5⟩, -, X5, ⟨Lc5, hQ5, l5, y5, z5⟩, st5⟩ := X4.specialBack hx (y := MN0) rfl hown (mvT hZ (wd 29 rfl)) (mvT hZ (wd 30 rfl)) (mvT hZ (wd 31 rfl)) (by decide) (backOf (W := 1) (rm5 l Z a0 hw [] b4 p1 b1 _ _ h4 n0 (by first | omega | exact own_ne (by omega) | exact own_le (by omega) | exact own_lt (by omega)) A4 F4_part F4_text (by first | omega | exact own_ne (by omega) | exact own_le (by omega) | exact own_lt (by omega))) hZ (wd 31 rfl) (wd 28 rfl) (by decide) (by decide)) (g := (mkF m 131 #[.val (.int p1), .val (.int p2), .val (.int av), .val (.int bv), .val (.int md), .val (.int l1), .val (.int l2), .val (.int x0), .val (.int x1), .val (.int y0), .val (.int y1), .val (.int q), .val (.int (((md.toUInt32 >>> ((6 : Int32) &&& 31).toUInt32).toInt32) &&& (3 : Int32))), .val (.ref b1), .val (.ref b3), .unset, .unset, .unset, .unset] [(.ref b1), (.int p1), (.ref b4), (.ref b4)])) rfl (by rw [hml]; rfl) (Steps.refl _) (a := b4) (argsL := [(.int p1), (.ref b1)]) (rest := [(.ref b4)]) (lenOf pd__ILjava_lang_String__V rfl) rfl (by show 2 * 0 + _ ≤ _; exact Nat.le_of_eq rfl) (hb hby at_131) (fun _ _ => ⟨rfl, e4, (by decide : 13 + 0 ≤ _), (by decide : 26 + 0 ≤ _)⟩)
  dsimp only [Pt.U, Pt.locs, Pt.cells, Pt.slots] at X5 l5 y5 z5 st5 hQ5
  subst l5 y5 z5
  obtain ⟨rfl, N5q, K5, A5⟩ := hQ5
  have N5 := Fr.app N3 N5q
  have sz5 := K5.1
  have SK5 : ∀ x ∈ [b4], Safe Z own_EL _ h4 x := (allS (Safe.exa hZ.alike A4 (by decide) (by decide) : (Safe Z own_EL _ h4 b4)) all0)
  have HC5 := HC4.trans (CHr.keep K5 SK5 HC4.1)
  refine go_tr (B := (T5.setTop (mkF m 134 #[.val (.int p1), .val (.int p2), .val (.int av), .val (.int bv), .val (.int md), .val (.int l1), .val (.int l2), .val (.int x0), .val (.int x1), .val (.int y0), .val (.int y1), .val (.int q), .val (.int (((md.toUInt32 >>> ((6 : Int32) &&& 31).toUInt32).toInt32) &&& (3 : Int32))), .val (.ref b1), .val (.ref b3), .unset, .unset, .unset, .unset] [(.ref b4)]))) (st5) ?_
  refine go_of (B := (T5.setTop (mkF m 136 #[.val (.int p1), .val (.int p2), .val (.int av), .val (.int bv), .val (.int md), .val (.int l1), .val (.int l2), .val (.int x0), .val (.int x1), .val (.int y0), .val (.int y1), .val (.int q), .val (.int (((md.toUInt32 >>> ((6 : Int32) &&& 31).toUInt32).toInt32) &&& (3 : Int32))), .val (.ref b1), .val (.ref b3), .val (.ref b4), .unset, .unset, .unset] []))) (fun _ kk => XS.astore X5.here hx rfl (hb hby at_134) rfl rfl rfl kk) ?_
  obtain ⟨T6, h6, X6, e6, E6, A6, D6, -, st6⟩ := newO X5 hx hZ hown (wd 26 rfl) (wd 27 rfl) (wd 28 rfl) rfl (g := (mkF m 136 #[.val (.int p1), .val (.int p2), .val (.int av), .val (.int bv), .val (.int md), .val (.int l1), .val (.int l2), .val (.int x0), .val (.int x1), .val (.int y0), .val (.int y1), .val (.int q), .val (.int (((md.toUInt32 >>> ((6 : Int32) &&& 31).toUInt32).toInt32) &&& (3 : Int32))), .val (.ref b1), .val (.ref b3), .val (.ref b4), .unset, .unset, .unset] [])) rfl (hb hby at_136) (by decide) (by decide)
  obtain ⟨b6, g6⟩ : ∃ z, z = T5.heap.size := ⟨_, rfl⟩
  rw [← g6] at A6 D6 st6
  have hi6 := own_nlt A6.lt
  have sz6 := E6.1
  have HC6 := HC5.trans (CHr.ext E6 HC5.1)
  have F6_part : Fld Z h6 b6 "com/example/grantline/grantline/Permission$Key" "part" "I" (.int (0 : Int32)) := D6 (Or.inr (wd 39 rfl)) (ty := .int) (by decide)
  have F6_text : Fld Z h6 b6 "com/example/grantline/grantline/Permission$Key" "text" "Ljava/lang/String;" .null := D6 (Or.inr (wd 41 rfl)) (ty := (.object "java/lang/String")) (by decide)
  refine go_of (B := (T6.setTop (mkF m 139 #[.val (.int p1), .val (.int p2), .val (.int av), .val (.int bv), .val (.int md), .val (.int l1), .val (.int l2), .val (.int x0), .val (.int x1), .val (.int y0), .val (.int y1), .val (.int q), .val (.int (((md.toUInt32 >>> ((6 : Int32) &&& 31).toUInt32).toInt32) &&& (3 : Int32))), .val (.ref b1), .val (.ref b3), .val (.ref b4), .unset, .unset, .unset] [(.ref b6)]))) (st6) ?_
  refine go_of (B := (T6.setTop (mkF m 144 #[.val (.int p1), .val (.int p2), .val (.int av), .val (.int bv), .val (.int md), .val (.int l1), .val (.int l2), .val (.int x0), .val (.int x1), .val (.int y0), .val (.int y1), .val (.int q), .val (.int (((md.toUInt32 >>> ((6 : Int32) &&& 31).toUInt32).toInt32) &&& (3 : Int32))), .val (.ref b1), .val (.ref b3), .val (.ref b4), .unset, .unset, .unset] [(.ref b3), (.int q), (.ref b6), (.ref b6)]))) (fun _ kk => XS.dup X6.here hx rfl (hb hby at_139) rfl rfl (XS.iload X6.here hx rfl (hb hby at_140) rfl (XS.aload X6.here hx rfl (hb hby at_142) rfl rfl kk))) ?_
  obtain ⟨_, _, ⟨T7, L7, k7, n7⟩, -, X7, ⟨Lc7, hQ7, l7, y7, z7⟩, st7⟩ := X6.specialBack hx (y := MN0) rfl hown (mvT hZ (wd 29 rfl)) (mvT hZ (wd 30 rfl)) (mvT hZ (wd 31 rfl)) (by decide) (backOf (W := 1) (rm5 l Z a0 hw [] b6 q b3 _ _ h6 n0 (by first | omega | exact own_ne (by omega) | exact own_le (by omega) | exact own_lt (by omega)) A6 F6_part F6_text (by first | omega | exact own_ne (by omega) | exact own_le (by omega) | exact own_lt (by omega))) hZ (wd 31 rfl) (wd 28 rfl) (by decide) (by decide)) (g := (mkF m 144 #[.val (.int p1), .val (.int p2), .val (.int av), .val (.int bv), .val (.int md), .val (.int l1), .val (.int l2), .val (.int x0), .val (.int x1), .val (.int y0), .val (.int y1), .val (.int q), .val (.int (((md.toUInt32 >>> ((6 : Int32) &&& 31).toUInt32).toInt32) &&& (3 : Int32))), .val (.ref b1), .val (.ref b3), .val (.ref b4), .unset, .unset, .unset] [(.ref b3), (.int q), (.ref b6), (.ref b6)])) rfl (by rw [hml]; rfl) (Steps.refl _) (a := b6) (argsL := [(.int q), (.ref b3)]) (rest := [(.ref b6)]) (lenOf pd__ILjava_lang_String__V rfl) rfl (by show 2 * 0 + _ ≤ _; exact Nat.le_of_eq rfl) (hb hby at_144) (fun _ _ => ⟨rfl, e6, (by decide : 14 + 0 ≤ _), (by decide : 28 + 0 ≤ _)⟩)
  dsimp only [Pt.U, Pt.locs, Pt.cells, Pt.slots] at X7 l7 y7 z7 st7 hQ7
  subst l7 y7 z7
  obtain ⟨rfl, N7q, K7, A7⟩ := hQ7
  have N7 := Fr.app N5 N7q
  have sz7 := K7.1
  have SK7 : ∀ x ∈ [b6], Safe Z own_EL _ h6 x := (allS (Safe.exa hZ.alike A6 (by decide) (by decide) : (Safe Z own_EL _ h6 b6)) all0)
  have HC7 := HC6.trans (CHr.keep K7 SK7 HC6.1)
  refine go_tr (B := (T7.setTop (mkF m 147 #[.val (.int p1), .val (.int p2), .val (.int av), .val (.int bv), .val (.int md), .val (.int l1), .val (.int l2), .val (.int x0), .val (.int x1), .val (.int y0), .val (.int y1), .val (.int q), .val (.int (((md.toUInt32 >>> ((6 : Int32) &&& 31).toUInt32).toInt32) &&& (3 : Int32))), .val (.ref b1), .val (.ref b3), .val (.ref b4), .unset, .unset, .unset] [(.ref b6)]))) (st7) ?_
  refine go_of (B := (T7.setTop (mkF m 149 #[.val (.int p1), .val (.int p2), .val (.int av), .val (.int bv), .val (.int md), .val (.int l1), .val (.int l2), .val (.int x0), .val (.int x1), .val (.int y0), .val (.int y1), .val (.int q), .val (.int (((md.toUInt32 >>> ((6 : Int32) &&& 31).toUInt32).toInt32) &&& (3 : Int32))), .val (.ref b1), .val (.ref b3), .val (.ref b4), .val (.ref b6), .unset, .unset] []))) (fun _ kk => XS.astore X7.here hx rfl (hb hby at_147) rfl rfl rfl kk) ?_
  have HJ8 : ∀ (te : Int32), te = own_eqv (own_mk l1 x0 x1) (own_mk l2 y0 y1) → Go p e below (T7.setTop (mkF m 189 #[.val (.int p1), .val (.int p2), .val (.int av), .val (.int bv), .val (.int md), .val (.int l1), .val (.int l2), .val (.int x0), .val (.int x1), .val (.int y0), .val (.int y1), .val (.int q), .val (.int (((md.toUInt32 >>> ((6 : Int32) &&& 31).toUInt32).toInt32) &&& (3 : Int32))), .val (.ref b1), .val (.ref b3), .val (.ref b4), .val (.ref b6), .val (.int te), .unset] [])) (fun oo' U2' => ∃ vv' LL', oo' = .returned vv' ∧ (Q_rm0 Z p1 p2 av bv md gC h0 n0) vv' U2'.heap LL' ∧ CHr Z own_EL s.vm s.heap U2'.vm U2'.heap ∧ ReturnedEndW s oo' U2' LL' room_1.cells room_1.slots) := by
    intro te hjHJ8
    refine go_of (B := (T7.setTop (mkF m 191 #[.val (.int p1), .val (.int p2), .val (.int av), .val (.int bv), .val (.int md), .val (.int l1), .val (.int l2), .val (.int x0), .val (.int x1), .val (.int y0), .val (.int y1), .val (.int q), .val (.int (((md.toUInt32 >>> ((6 : Int32) &&& 31).toUInt32).toInt32) &&& (3 : Int32))), .val (.ref b1), .val (.ref b3), .val (.ref b4), .val (.ref b6), .val (.int te), .unset] [(.int (((md.toUInt32 >>> ((6 : Int32) &&& 31).toUInt32).toInt32) &&& (3 : Int32)))]))) (fun _ kk => XS.iload X7.here hx rfl (hb hby at_189) rfl kk) ?_
    by_cases hcc9 : (((md.toUInt32 >>> ((6 : Int32) &&& 31).toUInt32).toInt32) &&& (3 : Int32)) = (0 : Int32)
    · refine go_of (B := (T7.setTop (mkF m 197 #[.val (.int p1), .val (.int p2), .val (.int av), .val (.int bv), .val (.int md), .val (.int l1), .val (.int l2), .val (.int x0), .val (.int x1), .val (.int y0), .val (.int y1), .val (.int q), .val (.int (((md.toUInt32 >>> ((6 : Int32) &&& 31).toUInt32).toInt32) &&& (3 : Int32))), .val (.ref b1), .val (.ref b3), .val (.ref b4), .val (.ref b6), .val (.int te), .unset] [(.int q), (.int p1)]))) (fun _ kk => XS.ifNo X7.here hx rfl (hb hby at_191) rfl ((if0 _ _).trans (teq hcc9).2) (XS.iloadN X7.here hx rfl (hb hby at_194) rfl (XS.iload X7.here hx rfl (hb hby at_195) rfl kk))) ?_
      by_cases hcc10 : p1 = q
      · refine go_of (B := (T7.setTop (mkF m 202 #[.val (.int p1), .val (.int p2), .val (.int av), .val (.int bv), .val (.int md), .val (.int l1), .val (.int l2), .val (.int x0), .val (.int x1), .val (.int y0), .val (.int y1), .val (.int q), .val (.int (((md.toUInt32 >>> ((6 : Int32) &&& 31).toUInt32).toInt32) &&& (3 : Int32))), .val (.ref b1), .val (.ref b3), .val (.ref b4), .val (.ref b6), .val (.int te), .unset] [(.int te)]))) (fun _ kk => XS.icmpNo X7.here hx rfl (hb hby at_197) rfl (teq hcc10).2 (XS.iload X7.here hx rfl (hb hby at_200) rfl kk)) ?_
        by_cases hcc11 : te = (0 : Int32)
        · refine go_of (B := (T7.setTop (mkF m 216 #[.val (.int p1), .val (.int p2), .val (.int av), .val (.int bv), .val (.int md), .val (.int l1), .val (.int l2), .val (.int x0), .val (.int x1), .val (.int y0), .val (.int y1), .val (.int q), .val (.int (((md.toUInt32 >>> ((6 : Int32) &&& 31).toUInt32).toInt32) &&& (3 : Int32))), .val (.ref b1), .val (.ref b3), .val (.ref b4), .val (.ref b6), .val (.int te), .val (.int (0 : Int32))] [(.ref b6), (.ref b4)]))) (fun _ kk => XS.ifYes X7.here hx rfl (pc0 := 202) (pc' := 209) rfl (hb hby at_202) rfl ((if0 _ _).trans (teq hcc11).1) (by decide) (by decide) (XS.iconst X7.here hx rfl (hb hby at_209) (XS.istore X7.here hx rfl (hb hby at_210) rfl rfl (XS.aload X7.here hx rfl (hb hby at_212) rfl rfl (XS.aload X7.here hx rfl (hb hby at_214) rfl rfl kk))))) ?_
          have cf_12 := S1.keep ((((((Keep.refl T1.heap []).trans K3 all0).ext E4).trans K5 (allS (Or.inr (by first | omega | exact own_ne (by omega) | exact own_le (by omega) | exact own_lt (by omega))) all0)).ext E6).trans K7 (allS (Or.inr (by first | omega | exact own_ne (by omega) | exact own_le (by omega) | exact own_lt (by omega))) all0)) all0
          have cf_13 := S3.keep (((((Keep.refl T3.heap []).ext E4).trans K5 (allS (Or.inr (by first | omega | exact own_ne (by omega) | exact own_le (by omega) | exact own_lt (by omega))) all0)).ext E6).trans K7 (allS (Or.inr (by first | omega | exact own_ne (by omega) | exact own_le (by omega) | exact own_lt (by omega))) all0)) all0
          have cf_14 := (((((cf_2.keep K3 all0).ext E4).keep K5 (allS (by first | omega | exact own_ne (by omega) | exact own_le (by omega) | exact own_lt (by omega)) all0)).ext E6).keep K7 (allS (by first | omega | exact own_ne (by omega) | exact own_le (by omega) | exact own_lt (by omega)) all0))
          have cf_15 := ((A5.1.ext E6).keep K7)
          have cf_16 := ((A5.2.1.ext E6).keep K7 (ninS (by first | omega | exact own_ne (by omega) | exact own_le (by omega) | exact own_lt (by omega)) nin0))
          have cf_17 := ((A5.2.2.ext E6).keep K7 (ninS (by first | omega | exact own_ne (by omega) | exact own_le (by omega) | exact own_lt (by omega)) nin0))
          obtain ⟨cq18, kq18, q18a, q18b, q18c⟩ := isOf hZ rfl cf_15
          obtain ⟨_, _, ⟨T18, L18, k18, n18⟩, -, X18, ⟨Lc18, hQ18, l18, y18, z18⟩, st18⟩ := X7.virtualBack hx (y := MN1) (z := MN1) hown (mvT hZ (wd 42 rfl)) (mvT hZ (wd 43 rfl)) (notFace_of_selects (args := #[]) (mvT hZ (wd 45 rfl))) (mvT hZ (wd 45 rfl)) (mvT hZ (wd 44 rfl)) (by decide) (backOf (W := 0) (eq_same l Z a0 hw [] b4 b6 p1 q b1 b3 (own_mk l1 x0 x1) (own_mk l2 y0 y1) gC T7.heap n0 (by first | omega | exact own_ne (by omega) | exact own_le (by omega) | exact own_lt (by omega)) cf_14 SC hgC ⟨cf_15, cf_16, cf_17⟩ ⟨A7.1, A7.2.1, A7.2.2⟩ cf_12 cf_13 (fun q => absurd q (own_ne (by first | omega | exact own_ne (by omega) | exact own_le (by omega) | exact own_lt (by omega))))) hZ (wd 46 rfl) (wd 28 rfl) (by decide) (by decide)) q18a q18c (g := (mkF m 216 #[.val (.int p1), .val (.int p2), .val (.int av), .val (.int bv), .val (.int md), .val (.int l1), .val (.int l2), .val (.int x0), .val (.int x1), .val (.int y0), .val (.int y1), .val (.int q), .val (.int (((md.toUInt32 >>> ((6 : Int32) &&& 31).toUInt32).toInt32) &&& (3 : Int32))), .val (.ref b1), .val (.ref b3), .val (.ref b4), .val (.ref b6), .val (.int te), .val (.int (0 : Int32))] [(.ref b6), (.ref b4)])) rfl (by rw [hml]; rfl) (Steps.refl _) (argsL := [(.ref b6)]) (rest := []) (lenOf pd__Ljava_lang_Object__Z rfl) rfl (by show 2 * 0 + _ ≤ _; exact Nat.le_of_eq rfl) (hb hby at_216) (fun _ _ => ⟨rfl, rfl, (by decide : 14 + 0 ≤ _), (by decide : 28 + 0 ≤ _)⟩)
          dsimp only [Pt.U, Pt.locs, Pt.cells, Pt.slots] at X18 l18 y18 z18 st18 hQ18
          subst l18 y18 z18
          obtain ⟨rfl, N18q, e18⟩ := hQ18
          have N18 := Fr.app N7 N18q
          refine go_tr (B := (T18.setTop (mkF m 219 #[.val (.int p1), .val (.int p2), .val (.int av), .val (.int bv), .val (.int md), .val (.int l1), .val (.int l2), .val (.int x0), .val (.int x1), .val (.int y0), .val (.int y1), .val (.int q), .val (.int (((md.toUInt32 >>> ((6 : Int32) &&& 31).toUInt32).toInt32) &&& (3 : Int32))), .val (.ref b1), .val (.ref b3), .val (.ref b4), .val (.ref b6), .val (.int te), .val (.int (0 : Int32))] [(.int (own_keq p1 q (own_mk l1 x0 x1) (own_mk l2 y0 y1)))]))) (st18) ?_
          refine go_of (B := (T18.setTop (mkF m 228 #[.val (.int p1), .val (.int p2), .val (.int av), .val (.int bv), .val (.int md), .val (.int l1), .val (.int l2), .val (.int x0), .val (.int x1), .val (.int y0), .val (.int y1), .val (.int q), .val (.int (((md.toUInt32 >>> ((6 : Int32) &&& 31).toUInt32).toInt32) &&& (3 : Int32))), .val (.ref b1), .val (.ref b3), .val (.ref b4), .val (.ref b6), .val (.int te), .val (.int (0 : Int32))] [(.ref b4), (.ref b6)]))) (fun _ kk => XS.iload X18.here hx rfl (hb hby at_219) rfl (XS.icmpNo X18.here hx rfl (hb hby at_221) rfl (teq (by rw [own_keq, if_pos hcc10, ← hjHJ8]; exact hcc11 : (own_keq p1 q (own_mk l1 x0 x1) (own_mk l2 y0 y1)) = (0 : Int32))).2 (XS.aload X18.here hx rfl (hb hby at_224) rfl rfl (XS.aload X18.here hx rfl (hb hby at_226) rfl rfl kk)))) ?_
          obtain ⟨cq19, kq19, q19a, q19b, q19c⟩ := isOf hZ e18 A7.1
          obtain ⟨_, _, ⟨T19, L19, k19, n19⟩, -, X19, ⟨Lc19, hQ19, l19, y19, z19⟩, st19⟩ := X18.virtualBack hx (y := MN1) (z := MN1) hown (mvT hZ (wd 42 rfl)) (mvT hZ (wd 43 rfl)) (notFace_of_selects (args := #[]) (mvT hZ (wd 45 rfl))) (mvT hZ (wd 45 rfl)) (mvT hZ (wd 44 rfl)) (by decide) (backOf (W := 0) (eq_same l Z a0 hw [] b6 b4 q p1 b3 b1 (own_mk l2 y0 y1) (own_mk l1 x0 x1) gC T7.heap n0 (by first | omega | exact own_ne (by omega) | exact own_le (by omega) | exact own_lt (by omega)) cf_14 SC hgC ⟨A7.1, A7.2.1, A7.2.2⟩ ⟨cf_15, cf_16, cf_17⟩ cf_13 cf_12 (fun q => absurd q (own_ne (by first | omega | exact own_ne (by omega) | exact own_le (by omega) | exact own_lt (by omega))))) hZ (wd 46 rfl) (wd 28 rfl) (by decide) (by decide)) q19a q19c (g := (mkF m 228 #[.val (.int p1), .val (.int p2), .val (.int av), .val (.int bv), .val (.int md), .val (.int l1), .val (.int l2), .val (.int x0), .val (.int x1), .val (.int y0), .val (.int y1), .val (.int q), .val (.int (((md.toUInt32 >>> ((6 : Int32) &&& 31).toUInt32).toInt32) &&& (3 : Int32))), .val (.ref b1), .val (.ref b3), .val (.ref b4), .val (.ref b6), .val (.int te), .val (.int (0 : Int32))] [(.ref b4), (.ref b6)])) rfl (by rw [hml]; rfl) (Steps.refl _) (argsL := [(.ref b4)]) (rest := []) (lenOf pd__Ljava_lang_Object__Z rfl) rfl (by show 2 * 0 + _ ≤ _; exact Nat.le_of_eq rfl) (hb hby at_228) (fun _ _ => ⟨rfl, e18, (by decide : 14 + 0 ≤ _), (by decide : 28 + 0 ≤ _)⟩)
          dsimp only [Pt.U, Pt.locs, Pt.cells, Pt.slots] at X19 l19 y19 z19 st19 hQ19
          subst l19 y19 z19
          obtain ⟨rfl, N19q, e19⟩ := hQ19
          have N19 := Fr.app N18 N19q
          refine go_tr (B := (T19.setTop (mkF m 231 #[.val (.int p1), .val (.int p2), .val (.int av), .val (.int bv), .val (.int md), .val (.int l1), .val (.int l2), .val (.int x0), .val (.int x1), .val (.int y0), .val (.int y1), .val (.int q), .val (.int (((md.toUInt32 >>> ((6 : Int32) &&& 31).toUInt32).toInt32) &&& (3 : Int32))), .val (.ref b1), .val (.ref b3), .val (.ref b4), .val (.ref b6), .val (.int te), .val (.int (0 : Int32))] [(.int (own_keq q p1 (own_mk l2 y0 y1) (own_mk l1 x0 x1)))]))) (st19) ?_
          refine go_of (B := (T19.setTop (mkF m 241 #[.val (.int p1), .val (.int p2), .val (.int av), .val (.int bv), .val (.int md), .val (.int l1), .val (.int l2), .val (.int x0), .val (.int x1), .val (.int y0), .val (.int y1), .val (.int q), .val (.int (((md.toUInt32 >>> ((6 : Int32) &&& 31).toUInt32).toInt32) &&& (3 : Int32))), .val (.ref b1), .val (.ref b3), .val (.ref b4), .val (.ref b6), .val (.int te), .val (.int (0 : Int32))] [(.int (1 : Int32))]))) (fun _ kk => XS.iload X19.here hx rfl (hb hby at_231) rfl (XS.icmpNo X19.here hx rfl (hb hby at_233) rfl (teq (by rw [own_keqc]; rw [own_keq, if_pos hcc10, ← hjHJ8]; exact hcc11 : (own_keq q p1 (own_mk l2 y0 y1) (own_mk l1 x0 x1)) = (0 : Int32))).2 (XS.iconst X19.here hx rfl (hb hby at_236) (XS.goto X19.here hx rfl (pc0 := 237) (pc' := 241) rfl (hb hby at_237) (by decide) (by decide) kk)))) ?_
          refine go_endH X19 hZ hEL HC7 hh0 e19 hS (by rw [e19]; omega) (v := some (.int (nar .boolean (1 : Int32)))) (fun h => by rw [hret] at h; cases h) hlk (by decide) (by decide) (Q := (Q_rm0 Z p1 p2 av bv md gC h0 n0)) ?_ (fun fs hr => retN X19 hx (t := .boolean) hret (by simp) (hb hby at_241) hr)
          unfold Q_rm0
          try rw [e19]
          exact ⟨rfl, N19⟩
        · refine go_of (B := (T7.setTop (mkF m 216 #[.val (.int p1), .val (.int p2), .val (.int av), .val (.int bv), .val (.int md), .val (.int l1), .val (.int l2), .val (.int x0), .val (.int x1), .val (.int y0), .val (.int y1), .val (.int q), .val (.int (((md.toUInt32 >>> ((6 : Int32) &&& 31).toUInt32).toInt32) &&& (3 : Int32))), .val (.ref b1), .val (.ref b3), .val (.ref b4), .val (.ref b6), .val (.int te), .val (.int (1 : Int32))] [(.ref b6), (.ref b4)]))) (fun _ kk => XS.ifNo X7.here hx rfl (hb hby at_202) rfl ((if0 _ _).trans (feq hcc11).1) (XS.iconst X7.here hx rfl (hb hby at_205) (XS.goto X7.here hx rfl (pc0 := 206) (pc' := 210) rfl (hb hby at_206) (by decide) (by decide) (XS.istore X7.here hx rfl (hb hby at_210) rfl rfl (XS.aload X7.here hx rfl (hb hby at_212) rfl rfl (XS.aload X7.here hx rfl (hb hby at_214) rfl rfl kk)))))) ?_
          have cf_20 := S1.keep ((((((Keep.refl T1.heap []).trans K3 all0).ext E4).trans K5 (allS (Or.inr (by first | omega | exact own_ne (by omega) | exact own_le (by omega) | exact own_lt (by omega))) all0)).ext E6).trans K7 (allS (Or.inr (by first | omega | exact own_ne (by omega) | exact own_le (by omega) | exact own_lt (by omega))) all0)) all0
          have cf_21 := S3.keep (((((Keep.refl T3.heap []).ext E4).trans K5 (allS (Or.inr (by first | omega | exact own_ne (by omega) | exact own_le (by omega) | exact own_lt (by omega))) all0)).ext E6).trans K7 (allS (Or.inr (by first | omega | exact own_ne (by omega) | exact own_le (by omega) | exact own_lt (by omega))) all0)) all0
          have cf_22 := (((((cf_2.keep K3 all0).ext E4).keep K5 (allS (by first | omega | exact own_ne (by omega) | exact own_le (by omega) | exact own_lt (by omega)) all0)).ext E6).keep K7 (allS (by first | omega | exact own_ne (by omega) | exact own_le (by omega) | exact own_lt (by omega)) all0))
          have cf_23 := ((A5.1.ext E6).keep K7)
          have cf_24 := ((A5.2.1.ext E6).keep K7 (ninS (by first | omega | exact own_ne (by omega) | exact own_le (by omega) | exact own_lt (by omega)) nin0))
          have cf_25 := ((A5.2.2.ext E6).keep K7 (ninS (by first | omega | exact own_ne (by omega) | exact own_le (by omega) | exact own_lt (by omega)) nin0))
          obtain ⟨cq26, kq26, q26a, q26b, q26c⟩ := isOf hZ rfl cf_23
          obtain ⟨_, _, ⟨T26, L26, k26, n26⟩, -, X26, ⟨Lc26, hQ26, l26, y26, z26⟩, st26⟩ := X7.virtualBack hx (y := MN1) (z := MN1) hown (mvT hZ (wd 42 rfl)) (mvT hZ (wd 43 rfl)) (notFace_of_selects (args := #[]) (mvT hZ (wd 45 rfl))) (mvT hZ (wd 45 rfl)) (mvT hZ (wd 44 rfl)) (by decide) (backOf (W := 0) (eq_same l Z a0 hw [] b4 b6 p1 q b1 b3 (own_mk l1 x0 x1) (own_mk l2 y0 y1) gC T7.heap n0 (by first | omega | exact own_ne (by omega) | exact own_le (by omega) | exact own_lt (by omega)) cf_22 SC hgC ⟨cf_23, cf_24, cf_25⟩ ⟨A7.1, A7.2.1, A7.2.2⟩ cf_20 cf_21 (fun q => absurd q (own_ne (by first | omega | exact own_ne (by omega) | exact own_le (by omega) | exact own_lt (by omega))))) hZ (wd 46 rfl) (wd 28 rfl) (by decide) (by decide)) q26a q26c (g := (mkF m 216 #[.val (.int p1), .val (.int p2), .val (.int av), .val (.int bv), .val (.int md), .val (.int l1), .val (.int l2), .val (.int x0), .val (.int x1), .val (.int y0), .val (.int y1), .val (.int q), .val (.int (((md.toUInt32 >>> ((6 : Int32) &&& 31).toUInt32).toInt32) &&& (3 : Int32))), .val (.ref b1), .val (.ref b3), .val (.ref b4), .val (.ref b6), .val (.int te), .val (.int (1 : Int32))] [(.ref b6), (.ref b4)])) rfl (by rw [hml]; rfl) (Steps.refl _) (argsL := [(.ref b6)]) (rest := []) (lenOf pd__Ljava_lang_Object__Z rfl) rfl (by show 2 * 0 + _ ≤ _; exact Nat.le_of_eq rfl) (hb hby at_216) (fun _ _ => ⟨rfl, rfl, (by decide : 14 + 0 ≤ _), (by decide : 28 + 0 ≤ _)⟩)
          dsimp only [Pt.U, Pt.locs, Pt.cells, Pt.slots] at X26 l26 y26 z26 st26 hQ26
          subst l26 y26 z26
          obtain ⟨rfl, N26q, e26⟩ := hQ26
          have N26 := Fr.app N7 N26q
          refine go_tr (B := (T26.setTop (mkF m 219 #[.val (.int p1), .val (.int p2), .val (.int av), .val (.int bv), .val (.int md), .val (.int l1), .val (.int l2), .val (.int x0), .val (.int x1), .val (.int y0), .val (.int y1), .val (.int q), .val (.int (((md.toUInt32 >>> ((6 : Int32) &&& 31).toUInt32).toInt32) &&& (3 : Int32))), .val (.ref b1), .val (.ref b3), .val (.ref b4), .val (.ref b6), .val (.int te), .val (.int (1 : Int32))] [(.int (own_keq p1 q (own_mk l1 x0 x1) (own_mk l2 y0 y1)))]))) (st26) ?_
          refine go_of (B := (T26.setTop (mkF m 228 #[.val (.int p1), .val (.int p2), .val (.int av), .val (.int bv), .val (.int md), .val (.int l1), .val (.int l2), .val (.int x0), .val (.int x1), .val (.int y0), .val (.int y1), .val (.int q), .val (.int (((md.toUInt32 >>> ((6 : Int32) &&& 31).toUInt32).toInt32) &&& (3 : Int32))), .val (.ref b1), .val (.ref b3), .val (.ref b4), .val (.ref b6), .val (.int te), .val (.int (1 : Int32))] [(.ref b4), (.ref b6)]))) (fun _ kk => XS.iload X26.here hx rfl (hb hby at_219) rfl (XS.icmpNo X26.here hx rfl (hb hby at_221) rfl (teq (by rw [own_keq, if_pos hcc10, ← hjHJ8]; exact own_te1 hjHJ8 hcc11 : (own_keq p1 q (own_mk l1 x0 x1) (own_mk l2 y0 y1)) = (1 : Int32))).2 (XS.aload X26.here hx rfl (hb hby at_224) rfl rfl (XS.aload X26.here hx rfl (hb hby at_226) rfl rfl kk)))) ?_
          obtain ⟨cq27, kq27, q27a, q27b, q27c⟩ := isOf hZ e26 A7.1
          obtain ⟨_, _, ⟨T27, L27, k27, n27⟩, -, X27, ⟨Lc27, hQ27, l27, y27, z27⟩, st27⟩ := X26.virtualBack hx (y := MN1) (z := MN1) hown (mvT hZ (wd 42 rfl)) (mvT hZ (wd 43 rfl)) (notFace_of_selects (args := #[]) (mvT hZ (wd 45 rfl))) (mvT hZ (wd 45 rfl)) (mvT hZ (wd 44 rfl)) (by decide) (backOf (W := 0) (eq_same l Z a0 hw [] b6 b4 q p1 b3 b1 (own_mk l2 y0 y1) (own_mk l1 x0 x1) gC T7.heap n0 (by first | omega | exact own_ne (by omega) | exact own_le (by omega) | exact own_lt (by omega)) cf_22 SC hgC ⟨A7.1, A7.2.1, A7.2.2⟩ ⟨cf_23, cf_24, cf_25⟩ cf_21 cf_20 (fun q => absurd q (own_ne (by first | omega | exact own_ne (by omega) | exact own_le (by omega) | exact own_lt (by omega))))) hZ (wd 46 rfl) (wd 28 rfl) (by decide) (by decide)) q27a q27c (g := (mkF m 228 #[.val (.int p1), .val (.int p2), .val (.int av), .val (.int bv), .val (.int md), .val (.int l1), .val (.int l2), .val (.int x0), .val (.int x1), .val (.int y0), .val (.int y1), .val (.int q), .val (.int (((md.toUInt32 >>> ((6 : Int32) &&& 31).toUInt32).toInt32) &&& (3 : Int32))), .val (.ref b1), .val (.ref b3), .val (.ref b4), .val (.ref b6), .val (.int te), .val (.int (1 : Int32))] [(.ref b4), (.ref b6)])) rfl (by rw [hml]; rfl) (Steps.refl _) (argsL := [(.ref b4)]) (rest := []) (lenOf pd__Ljava_lang_Object__Z rfl) rfl (by show 2 * 0 + _ ≤ _; exact Nat.le_of_eq rfl) (hb hby at_228) (fun _ _ => ⟨rfl, e26, (by decide : 14 + 0 ≤ _), (by decide : 28 + 0 ≤ _)⟩)
          dsimp only [Pt.U, Pt.locs, Pt.cells, Pt.slots] at X27 l27 y27 z27 st27 hQ27
          subst l27 y27 z27
          obtain ⟨rfl, N27q, e27⟩ := hQ27
          have N27 := Fr.app N26 N27q
          refine go_tr (B := (T27.setTop (mkF m 231 #[.val (.int p1), .val (.int p2), .val (.int av), .val (.int bv), .val (.int md), .val (.int l1), .val (.int l2), .val (.int x0), .val (.int x1), .val (.int y0), .val (.int y1), .val (.int q), .val (.int (((md.toUInt32 >>> ((6 : Int32) &&& 31).toUInt32).toInt32) &&& (3 : Int32))), .val (.ref b1), .val (.ref b3), .val (.ref b4), .val (.ref b6), .val (.int te), .val (.int (1 : Int32))] [(.int (own_keq q p1 (own_mk l2 y0 y1) (own_mk l1 x0 x1)))]))) (st27) ?_
          refine go_of (B := (T27.setTop (mkF m 241 #[.val (.int p1), .val (.int p2), .val (.int av), .val (.int bv), .val (.int md), .val (.int l1), .val (.int l2), .val (.int x0), .val (.int x1), .val (.int y0), .val (.int y1), .val (.int q), .val (.int (((md.toUInt32 >>> ((6 : Int32) &&& 31).toUInt32).toInt32) &&& (3 : Int32))), .val (.ref b1), .val (.ref b3), .val (.ref b4), .val (.ref b6), .val (.int te), .val (.int (1 : Int32))] [(.int (1 : Int32))]))) (fun _ kk => XS.iload X27.here hx rfl (hb hby at_231) rfl (XS.icmpNo X27.here hx rfl (hb hby at_233) rfl (teq (by rw [own_keqc]; rw [own_keq, if_pos hcc10, ← hjHJ8]; exact own_te1 hjHJ8 hcc11 : (own_keq q p1 (own_mk l2 y0 y1) (own_mk l1 x0 x1)) = (1 : Int32))).2 (XS.iconst X27.here hx rfl (hb hby at_236) (XS.goto X27.here hx rfl (pc0 := 237) (pc' := 241) rfl (hb hby at_237) (by decide) (by decide) kk)))) ?_
          refine go_endH X27 hZ hEL HC7 hh0 e27 hS (by rw [e27]; omega) (v := some (.int (nar .boolean (1 : Int32)))) (fun h => by rw [hret] at h; cases h) hlk (by decide) (by decide) (Q := (Q_rm0 Z p1 p2 av bv md gC h0 n0)) ?_ (fun fs hr => retN X27 hx (t := .boolean) hret (by simp) (hb hby at_241) hr)
          unfold Q_rm0
          try rw [e27]
          exact ⟨rfl, N27⟩
      · refine go_of (B := (T7.setTop (mkF m 216 #[.val (.int p1), .val (.int p2), .val (.int av), .val (.int bv), .val (.int md), .val (.int l1), .val (.int l2), .val (.int x0), .val (.int x1), .val (.int y0), .val (.int y1), .val (.int q), .val (.int (((md.toUInt32 >>> ((6 : Int32) &&& 31).toUInt32).toInt32) &&& (3 : Int32))), .val (.ref b1), .val (.ref b3), .val (.ref b4), .val (.ref b6), .val (.int te), .val (.int (0 : Int32))] [(.ref b6), (.ref b4)]))) (fun _ kk => XS.icmpYes X7.here hx rfl (pc0 := 197) (pc' := 209) rfl (hb hby at_197) rfl (feq hcc10).2 (by decide) (by decide) (XS.iconst X7.here hx rfl (hb hby at_209) (XS.istore X7.here hx rfl (hb hby at_210) rfl rfl (XS.aload X7.here hx rfl (hb hby at_212) rfl rfl (XS.aload X7.here hx rfl (hb hby at_214) rfl rfl kk))))) ?_
        have cf_28 := S1.keep ((((((Keep.refl T1.heap []).trans K3 all0).ext E4).trans K5 (allS (Or.inr (by first | omega | exact own_ne (by omega) | exact own_le (by omega) | exact own_lt (by omega))) all0)).ext E6).trans K7 (allS (Or.inr (by first | omega | exact own_ne (by omega) | exact own_le (by omega) | exact own_lt (by omega))) all0)) all0
        have cf_29 := S3.keep (((((Keep.refl T3.heap []).ext E4).trans K5 (allS (Or.inr (by first | omega | exact own_ne (by omega) | exact own_le (by omega) | exact own_lt (by omega))) all0)).ext E6).trans K7 (allS (Or.inr (by first | omega | exact own_ne (by omega) | exact own_le (by omega) | exact own_lt (by omega))) all0)) all0
        have cf_30 := (((((cf_2.keep K3 all0).ext E4).keep K5 (allS (by first | omega | exact own_ne (by omega) | exact own_le (by omega) | exact own_lt (by omega)) all0)).ext E6).keep K7 (allS (by first | omega | exact own_ne (by omega) | exact own_le (by omega) | exact own_lt (by omega)) all0))
        have cf_31 := ((A5.1.ext E6).keep K7)
        have cf_32 := ((A5.2.1.ext E6).keep K7 (ninS (by first | omega | exact own_ne (by omega) | exact own_le (by omega) | exact own_lt (by omega)) nin0))
        have cf_33 := ((A5.2.2.ext E6).keep K7 (ninS (by first | omega | exact own_ne (by omega) | exact own_le (by omega) | exact own_lt (by omega)) nin0))
        obtain ⟨cq34, kq34, q34a, q34b, q34c⟩ := isOf hZ rfl cf_31
        obtain ⟨_, _, ⟨T34, L34, k34, n34⟩, -, X34, ⟨Lc34, hQ34, l34, y34, z34⟩, st34⟩ := X7.virtualBack hx (y := MN1) (z := MN1) hown (mvT hZ (wd 42 rfl)) (mvT hZ (wd 43 rfl)) (notFace_of_selects (args := #[]) (mvT hZ (wd 45 rfl))) (mvT hZ (wd 45 rfl)) (mvT hZ (wd 44 rfl)) (by decide) (backOf (W := 0) (eq_same l Z a0 hw [] b4 b6 p1 q b1 b3 (own_mk l1 x0 x1) (own_mk l2 y0 y1) gC T7.heap n0 (by first | omega | exact own_ne (by omega) | exact own_le (by omega) | exact own_lt (by omega)) cf_30 SC hgC ⟨cf_31, cf_32, cf_33⟩ ⟨A7.1, A7.2.1, A7.2.2⟩ cf_28 cf_29 (fun q => absurd q (own_ne (by first | omega | exact own_ne (by omega) | exact own_le (by omega) | exact own_lt (by omega))))) hZ (wd 46 rfl) (wd 28 rfl) (by decide) (by decide)) q34a q34c (g := (mkF m 216 #[.val (.int p1), .val (.int p2), .val (.int av), .val (.int bv), .val (.int md), .val (.int l1), .val (.int l2), .val (.int x0), .val (.int x1), .val (.int y0), .val (.int y1), .val (.int q), .val (.int (((md.toUInt32 >>> ((6 : Int32) &&& 31).toUInt32).toInt32) &&& (3 : Int32))), .val (.ref b1), .val (.ref b3), .val (.ref b4), .val (.ref b6), .val (.int te), .val (.int (0 : Int32))] [(.ref b6), (.ref b4)])) rfl (by rw [hml]; rfl) (Steps.refl _) (argsL := [(.ref b6)]) (rest := []) (lenOf pd__Ljava_lang_Object__Z rfl) rfl (by show 2 * 0 + _ ≤ _; exact Nat.le_of_eq rfl) (hb hby at_216) (fun _ _ => ⟨rfl, rfl, (by decide : 14 + 0 ≤ _), (by decide : 28 + 0 ≤ _)⟩)
        dsimp only [Pt.U, Pt.locs, Pt.cells, Pt.slots] at X34 l34 y34 z34 st34 hQ34
        subst l34 y34 z34
        obtain ⟨rfl, N34q, e34⟩ := hQ34
        have N34 := Fr.app N7 N34q
        refine go_tr (B := (T34.setTop (mkF m 219 #[.val (.int p1), .val (.int p2), .val (.int av), .val (.int bv), .val (.int md), .val (.int l1), .val (.int l2), .val (.int x0), .val (.int x1), .val (.int y0), .val (.int y1), .val (.int q), .val (.int (((md.toUInt32 >>> ((6 : Int32) &&& 31).toUInt32).toInt32) &&& (3 : Int32))), .val (.ref b1), .val (.ref b3), .val (.ref b4), .val (.ref b6), .val (.int te), .val (.int (0 : Int32))] [(.int (own_keq p1 q (own_mk l1 x0 x1) (own_mk l2 y0 y1)))]))) (st34) ?_
        refine go_of (B := (T34.setTop (mkF m 228 #[.val (.int p1), .val (.int p2), .val (.int av), .val (.int bv), .val (.int md), .val (.int l1), .val (.int l2), .val (.int x0), .val (.int x1), .val (.int y0), .val (.int y1), .val (.int q), .val (.int (((md.toUInt32 >>> ((6 : Int32) &&& 31).toUInt32).toInt32) &&& (3 : Int32))), .val (.ref b1), .val (.ref b3), .val (.ref b4), .val (.ref b6), .val (.int te), .val (.int (0 : Int32))] [(.ref b4), (.ref b6)]))) (fun _ kk => XS.iload X34.here hx rfl (hb hby at_219) rfl (XS.icmpNo X34.here hx rfl (hb hby at_221) rfl (teq (by rw [own_keq, if_neg hcc10] : (own_keq p1 q (own_mk l1 x0 x1) (own_mk l2 y0 y1)) = (0 : Int32))).2 (XS.aload X34.here hx rfl (hb hby at_224) rfl rfl (XS.aload X34.here hx rfl (hb hby at_226) rfl rfl kk)))) ?_
        obtain ⟨cq35, kq35, q35a, q35b, q35c⟩ := isOf hZ e34 A7.1
        obtain ⟨_, _, ⟨T35, L35, k35, n35⟩, -, X35, ⟨Lc35, hQ35, l35, y35, z35⟩, st35⟩ := X34.virtualBack hx (y := MN1) (z := MN1) hown (mvT hZ (wd 42 rfl)) (mvT hZ (wd 43 rfl)) (notFace_of_selects (args := #[]) (mvT hZ (wd 45 rfl))) (mvT hZ (wd 45 rfl)) (mvT hZ (wd 44 rfl)) (by decide) (backOf (W := 0) (eq_same l Z a0 hw [] b6 b4 q p1 b3 b1 (own_mk l2 y0 y1) (own_mk l1 x0 x1) gC T7.heap n0 (by first | omega | exact own_ne (by omega) | exact own_le (by omega) | exact own_lt (by omega)) cf_30 SC hgC ⟨A7.1, A7.2.1, A7.2.2⟩ ⟨cf_31, cf_32, cf_33⟩ cf_29 cf_28 (fun q => absurd q (own_ne (by first | omega | exact own_ne (by omega) | exact own_le (by omega) | exact own_lt (by omega))))) hZ (wd 46 rfl) (wd 28 rfl) (by decide) (by decide)) q35a q35c (g := (mkF m 228 #[.val (.int p1), .val (.int p2), .val (.int av), .val (.int bv), .val (.int md), .val (.int l1), .val (.int l2), .val (.int x0), .val (.int x1), .val (.int y0), .val (.int y1), .val (.int q), .val (.int (((md.toUInt32 >>> ((6 : Int32) &&& 31).toUInt32).toInt32) &&& (3 : Int32))), .val (.ref b1), .val (.ref b3), .val (.ref b4), .val (.ref b6), .val (.int te), .val (.int (0 : Int32))] [(.ref b4), (.ref b6)])) rfl (by rw [hml]; rfl) (Steps.refl _) (argsL := [(.ref b4)]) (rest := []) (lenOf pd__Ljava_lang_Object__Z rfl) rfl (by show 2 * 0 + _ ≤ _; exact Nat.le_of_eq rfl) (hb hby at_228) (fun _ _ => ⟨rfl, e34, (by decide : 14 + 0 ≤ _), (by decide : 28 + 0 ≤ _)⟩)
        dsimp only [Pt.U, Pt.locs, Pt.cells, Pt.slots] at X35 l35 y35 z35 st35 hQ35
        subst l35 y35 z35
        obtain ⟨rfl, N35q, e35⟩ := hQ35
        have N35 := Fr.app N34 N35q
        refine go_tr (B := (T35.setTop (mkF m 231 #[.val (.int p1), .val (.int p2), .val (.int av), .val (.int bv), .val (.int md), .val (.int l1), .val (.int l2), .val (.int x0), .val (.int x1), .val (.int y0), .val (.int y1), .val (.int q), .val (.int (((md.toUInt32 >>> ((6 : Int32) &&& 31).toUInt32).toInt32) &&& (3 : Int32))), .val (.ref b1), .val (.ref b3), .val (.ref b4), .val (.ref b6), .val (.int te), .val (.int (0 : Int32))] [(.int (own_keq q p1 (own_mk l2 y0 y1) (own_mk l1 x0 x1)))]))) (st35) ?_
        refine go_of (B := (T35.setTop (mkF m 241 #[.val (.int p1), .val (.int p2), .val (.int av), .val (.int bv), .val (.int md), .val (.int l1), .val (.int l2), .val (.int x0), .val (.int x1), .val (.int y0), .val (.int y1), .val (.int q), .val (.int (((md.toUInt32 >>> ((6 : Int32) &&& 31).toUInt32).toInt32) &&& (3 : Int32))), .val (.ref b1), .val (.ref b3), .val (.ref b4), .val (.ref b6), .val (.int te), .val (.int (0 : Int32))] [(.int (1 : Int32))]))) (fun _ kk => XS.iload X35.here hx rfl (hb hby at_231) rfl (XS.icmpNo X35.here hx rfl (hb hby at_233) rfl (teq (by rw [own_keqc]; rw [own_keq, if_neg hcc10] : (own_keq q p1 (own_mk l2 y0 y1) (own_mk l1 x0 x1)) = (0 : Int32))).2 (XS.iconst X35.here hx rfl (hb hby at_236) (XS.goto X35.here hx rfl (pc0 := 237) (pc' := 241) rfl (hb hby at_237) (by decide) (by decide) kk)))) ?_
        refine go_endH X35 hZ hEL HC7 hh0 e35 hS (by rw [e35]; omega) (v := some (.int (nar .boolean (1 : Int32)))) (fun h => by rw [hret] at h; cases h) hlk (by decide) (by decide) (Q := (Q_rm0 Z p1 p2 av bv md gC h0 n0)) ?_ (fun fs hr => retN X35 hx (t := .boolean) hret (by simp) (hb hby at_241) hr)
        unfold Q_rm0
        try rw [e35]
        exact ⟨rfl, N35⟩
    · refine go_of (B := (T7.setTop (mkF m 245 #[.val (.int p1), .val (.int p2), .val (.int av), .val (.int bv), .val (.int md), .val (.int l1), .val (.int l2), .val (.int x0), .val (.int x1), .val (.int y0), .val (.int y1), .val (.int q), .val (.int (((md.toUInt32 >>> ((6 : Int32) &&& 31).toUInt32).toInt32) &&& (3 : Int32))), .val (.ref b1), .val (.ref b3), .val (.ref b4), .val (.ref b6), .val (.int te), .unset] [(.int (1 : Int32)), (.int (((md.toUInt32 >>> ((6 : Int32) &&& 31).toUInt32).toInt32) &&& (3 : Int32)))]))) (fun _ kk => XS.ifYes X7.here hx rfl (pc0 := 191) (pc' := 242) rfl (hb hby at_191) rfl ((if0 _ _).trans (feq hcc9).2) (by decide) (by decide) (XS.iload X7.here hx rfl (hb hby at_242) rfl (XS.iconst X7.here hx rfl (hb hby at_244) kk))) ?_
      by_cases hcc36 : (((md.toUInt32 >>> ((6 : Int32) &&& 31).toUInt32).toInt32) &&& (3 : Int32)) = (1 : Int32)
      · refine go_of (B := (T7.setTop (mkF m 251 #[.val (.int p1), .val (.int p2), .val (.int av), .val (.int bv), .val (.int md), .val (.int l1), .val (.int l2), .val (.int x0), .val (.int x1), .val (.int y0), .val (.int y1), .val (.int q), .val (.int (((md.toUInt32 >>> ((6 : Int32) &&& 31).toUInt32).toInt32) &&& (3 : Int32))), .val (.ref b1), .val (.ref b3), .val (.ref b4), .val (.ref b6), .val (.int te), .unset] [.null, (.ref b4)]))) (fun _ kk => XS.icmpNo X7.here hx rfl (hb hby at_245) rfl (teq hcc36).2 (XS.aload X7.here hx rfl (hb hby at_248) rfl rfl (XS.aconstNull X7.here hx rfl (hb hby at_250) kk))) ?_
        have cf_38 := ((A5.1.ext E6).keep K7)
        obtain ⟨cq37, kq37, q37a, q37b, q37c⟩ := isOf hZ rfl cf_38
        obtain ⟨_, _, ⟨T37, L37, k37, n37⟩, -, X37, ⟨Lc37, hQ37, l37, y37, z37⟩, st37⟩ := X7.virtualBack hx (y := MN1) (z := MN1) hown (mvT hZ (wd 42 rfl)) (mvT hZ (wd 43 rfl)) (notFace_of_selects (args := #[]) (mvT hZ (wd 45 rfl))) (mvT hZ (wd 45 rfl)) (mvT hZ (wd 44 rfl)) (by decide) (backOf (W := 0) (eq_null l Z a0 hw [] b4 T7.heap n0 (by first | omega | exact own_ne (by omega) | exact own_le (by omega) | exact own_lt (by omega))) hZ (wd 46 rfl) (wd 28 rfl) (by decide) (by decide)) q37a q37c (g := (mkF m 251 #[.val (.int p1), .val (.int p2), .val (.int av), .val (.int bv), .val (.int md), .val (.int l1), .val (.int l2), .val (.int x0), .val (.int x1), .val (.int y0), .val (.int y1), .val (.int q), .val (.int (((md.toUInt32 >>> ((6 : Int32) &&& 31).toUInt32).toInt32) &&& (3 : Int32))), .val (.ref b1), .val (.ref b3), .val (.ref b4), .val (.ref b6), .val (.int te), .unset] [.null, (.ref b4)])) rfl (by rw [hml]; rfl) (Steps.refl _) (argsL := [.null]) (rest := []) (lenOf pd__Ljava_lang_Object__Z rfl) rfl (by show 2 * 0 + _ ≤ _; exact Nat.le_of_eq rfl) (hb hby at_251) (fun _ _ => ⟨rfl, rfl, (by decide : 14 + 0 ≤ _), (by decide : 28 + 0 ≤ _)⟩)
        dsimp only [Pt.U, Pt.locs, Pt.cells, Pt.slots] at X37 l37 y37 z37 st37 hQ37
        subst l37 y37 z37
        obtain ⟨rfl, N37q, e37⟩ := hQ37
        have N37 := Fr.app N7 N37q
        refine go_tr (B := (T37.setTop (mkF m 254 #[.val (.int p1), .val (.int p2), .val (.int av), .val (.int bv), .val (.int md), .val (.int l1), .val (.int l2), .val (.int x0), .val (.int x1), .val (.int y0), .val (.int y1), .val (.int q), .val (.int (((md.toUInt32 >>> ((6 : Int32) &&& 31).toUInt32).toInt32) &&& (3 : Int32))), .val (.ref b1), .val (.ref b3), .val (.ref b4), .val (.ref b6), .val (.int te), .unset] [(.int (0 : Int32))]))) (st37) ?_
        refine go_of (B := (T37.setTop (mkF m 262 #[.val (.int p1), .val (.int p2), .val (.int av), .val (.int bv), .val (.int md), .val (.int l1), .val (.int l2), .val (.int x0), .val (.int x1), .val (.int y0), .val (.int y1), .val (.int q), .val (.int (((md.toUInt32 >>> ((6 : Int32) &&& 31).toUInt32).toInt32) &&& (3 : Int32))), .val (.ref b1), .val (.ref b3), .val (.ref b4), .val (.ref b6), .val (.int te), .unset] [(.int (1 : Int32))]))) (fun _ kk => XS.ifNo X37.here hx rfl (hb hby at_254) rfl ((if0 _ _).trans (teq (by decide : (0 : Int32) = (0 : Int32))).2) (XS.iconst X37.here hx rfl (hb hby at_257) (XS.goto X37.here hx rfl (pc0 := 258) (pc' := 262) rfl (hb hby at_258) (by decide) (by decide) kk))) ?_
        refine go_endH X37 hZ hEL HC7 hh0 e37 hS (by rw [e37]; omega) (v := some (.int (nar .boolean (1 : Int32)))) (fun h => by rw [hret] at h; cases h) hlk (by decide) (by decide) (Q := (Q_rm0 Z p1 p2 av bv md gC h0 n0)) ?_ (fun fs hr => retN X37 hx (t := .boolean) hret (by simp) (hb hby at_262) hr)
        unfold Q_rm0
        try rw [e37]
        exact ⟨rfl, N37⟩
      · refine go_of (B := (T7.setTop (mkF m 266 #[.val (.int p1), .val (.int p2), .val (.int av), .val (.int bv), .val (.int md), .val (.int l1), .val (.int l2), .val (.int x0), .val (.int x1), .val (.int y0), .val (.int y1), .val (.int q), .val (.int (((md.toUInt32 >>> ((6 : Int32) &&& 31).toUInt32).toInt32) &&& (3 : Int32))), .val (.ref b1), .val (.ref b3), .val (.ref b4), .val (.ref b6), .val (.int te), .unset] [(.int (2 : Int32)), (.int (((md.toUInt32 >>> ((6 : Int32) &&& 31).toUInt32).toInt32) &&& (3 : Int32)))]))) (fun _ kk => XS.icmpYes X7.here hx rfl (pc0 := 245) (pc' := 263) rfl (hb hby at_245) rfl (feq hcc36).2 (by decide) (by decide) (XS.iload X7.here hx rfl (hb hby at_263) rfl (XS.iconst X7.here hx rfl (hb hby at_265) kk))) ?_
        by_cases hcc39 : (((md.toUInt32 >>> ((6 : Int32) &&& 31).toUInt32).toInt32) &&& (3 : Int32)) = (2 : Int32)
        · refine go_of (B := (T7.setTop (mkF m 273 #[.val (.int p1), .val (.int p2), .val (.int av), .val (.int bv), .val (.int md), .val (.int l1), .val (.int l2), .val (.int x0), .val (.int x1), .val (.int y0), .val (.int y1), .val (.int q), .val (.int (((md.toUInt32 >>> ((6 : Int32) &&& 31).toUInt32).toInt32) &&& (3 : Int32))), .val (.ref b1), .val (.ref b3), .val (.ref b4), .val (.ref b6), .val (.int te), .unset] [(.ref b1), (.ref b4)]))) (fun _ kk => XS.icmpNo X7.here hx rfl (hb hby at_266) rfl (teq hcc39).2 (XS.aload X7.here hx rfl (hb hby at_269) rfl rfl (XS.aload X7.here hx rfl (hb hby at_271) rfl rfl kk))) ?_
          have cf_40 := (((((S1.exa.keep K3).ext E4).keep K5).ext E6).keep K7)
          have cf_42 := ((A5.1.ext E6).keep K7)
          obtain ⟨cq41, kq41, q41a, q41b, q41c⟩ := isOf hZ rfl cf_42
          obtain ⟨_, _, ⟨T41, L41, k41, n41⟩, -, X41, ⟨Lc41, hQ41, l41, y41, z41⟩, st41⟩ := X7.virtualBack hx (y := MN1) (z := MN1) hown (mvT hZ (wd 42 rfl)) (mvT hZ (wd 43 rfl)) (notFace_of_selects (args := #[]) (mvT hZ (wd 45 rfl))) (mvT hZ (wd 45 rfl)) (mvT hZ (wd 44 rfl)) (by decide) (backOf (W := 0) (eq_other l Z a0 hw [] b4 b1 T7.heap n0 (by first | omega | exact own_ne (by omega) | exact own_le (by omega) | exact own_lt (by omega)) cf_40) hZ (wd 46 rfl) (wd 28 rfl) (by decide) (by decide)) q41a q41c (g := (mkF m 273 #[.val (.int p1), .val (.int p2), .val (.int av), .val (.int bv), .val (.int md), .val (.int l1), .val (.int l2), .val (.int x0), .val (.int x1), .val (.int y0), .val (.int y1), .val (.int q), .val (.int (((md.toUInt32 >>> ((6 : Int32) &&& 31).toUInt32).toInt32) &&& (3 : Int32))), .val (.ref b1), .val (.ref b3), .val (.ref b4), .val (.ref b6), .val (.int te), .unset] [(.ref b1), (.ref b4)])) rfl (by rw [hml]; rfl) (Steps.refl _) (argsL := [(.ref b1)]) (rest := []) (lenOf pd__Ljava_lang_Object__Z rfl) rfl (by show 2 * 0 + _ ≤ _; exact Nat.le_of_eq rfl) (hb hby at_273) (fun _ _ => ⟨rfl, rfl, (by decide : 14 + 0 ≤ _), (by decide : 28 + 0 ≤ _)⟩)
          dsimp only [Pt.U, Pt.locs, Pt.cells, Pt.slots] at X41 l41 y41 z41 st41 hQ41
          subst l41 y41 z41
          obtain ⟨rfl, N41q, e41⟩ := hQ41
          have N41 := Fr.app N7 N41q
          refine go_tr (B := (T41.setTop (mkF m 276 #[.val (.int p1), .val (.int p2), .val (.int av), .val (.int bv), .val (.int md), .val (.int l1), .val (.int l2), .val (.int x0), .val (.int x1), .val (.int y0), .val (.int y1), .val (.int q), .val (.int (((md.toUInt32 >>> ((6 : Int32) &&& 31).toUInt32).toInt32) &&& (3 : Int32))), .val (.ref b1), .val (.ref b3), .val (.ref b4), .val (.ref b6), .val (.int te), .unset] [(.int (0 : Int32))]))) (st41) ?_
          refine go_of (B := (T41.setTop (mkF m 284 #[.val (.int p1), .val (.int p2), .val (.int av), .val (.int bv), .val (.int md), .val (.int l1), .val (.int l2), .val (.int x0), .val (.int x1), .val (.int y0), .val (.int y1), .val (.int q), .val (.int (((md.toUInt32 >>> ((6 : Int32) &&& 31).toUInt32).toInt32) &&& (3 : Int32))), .val (.ref b1), .val (.ref b3), .val (.ref b4), .val (.ref b6), .val (.int te), .unset] [(.int (1 : Int32))]))) (fun _ kk => XS.ifNo X41.here hx rfl (hb hby at_276) rfl ((if0 _ _).trans (teq (by decide : (0 : Int32) = (0 : Int32))).2) (XS.iconst X41.here hx rfl (hb hby at_279) (XS.goto X41.here hx rfl (pc0 := 280) (pc' := 284) rfl (hb hby at_280) (by decide) (by decide) kk))) ?_
          refine go_endH X41 hZ hEL HC7 hh0 e41 hS (by rw [e41]; omega) (v := some (.int (nar .boolean (1 : Int32)))) (fun h => by rw [hret] at h; cases h) hlk (by decide) (by decide) (Q := (Q_rm0 Z p1 p2 av bv md gC h0 n0)) ?_ (fun fs hr => retN X41 hx (t := .boolean) hret (by simp) (hb hby at_284) hr)
          unfold Q_rm0
          try rw [e41]
          exact ⟨rfl, N41⟩
        · refine go_of (B := (T7.setTop (mkF m 285 #[.val (.int p1), .val (.int p2), .val (.int av), .val (.int bv), .val (.int md), .val (.int l1), .val (.int l2), .val (.int x0), .val (.int x1), .val (.int y0), .val (.int y1), .val (.int q), .val (.int (((md.toUInt32 >>> ((6 : Int32) &&& 31).toUInt32).toInt32) &&& (3 : Int32))), .val (.ref b1), .val (.ref b3), .val (.ref b4), .val (.ref b6), .val (.int te), .unset] []))) (fun _ kk => XS.icmpYes X7.here hx rfl (pc0 := 266) (pc' := 285) rfl (hb hby at_266) rfl (feq hcc39).2 (by decide) (by decide) kk) ?_
          obtain ⟨T43, h43, X43, e43, E43, A43, D43, -, st43⟩ := newO X7 hx hZ hown (wd 26 rfl) (wd 27 rfl) (wd 28 rfl) rfl (g := (mkF m 285 #[.val (.int p1), .val (.int p2), .val (.int av), .val (.int bv), .val (.int md), .val (.int l1), .val (.int l2), .val (.int x0), .val (.int x1), .val (.int y0), .val (.int y1), .val (.int q), .val (.int (((md.toUInt32 >>> ((6 : Int32) &&& 31).toUInt32).toInt32) &&& (3 : Int32))), .val (.ref b1), .val (.ref b3), .val (.ref b4), .val (.ref b6), .val (.int te), .unset] [])) rfl (hb hby at_285) (by decide) (by decide)
          obtain ⟨b43, g43⟩ : ∃ z, z = T7.heap.size := ⟨_, rfl⟩
          rw [← g43] at A43 D43 st43
          have hi43 := own_nlt A43.lt
          have sz43 := E43.1
          have HC43 := HC7.trans (CHr.ext E43 HC7.1)
          have F43_part : Fld Z h43 b43 "com/example/grantline/grantline/Permission$Key" "part" "I" (.int (0 : Int32)) := D43 (Or.inr (wd 39 rfl)) (ty := .int) (by decide)
          have F43_text : Fld Z h43 b43 "com/example/grantline/grantline/Permission$Key" "text" "Ljava/lang/String;" .null := D43 (Or.inr (wd 41 rfl)) (ty := (.object "java/lang/String")) (by decide)
          refine go_of (B := (T43.setTop (mkF m 288 #[.val (.int p1), .val (.int p2), .val (.int av), .val (.int bv), .val (.int md), .val (.int l1), .val (.int l2), .val (.int x0), .val (.int x1), .val (.int y0), .val (.int y1), .val (.int q), .val (.int (((md.toUInt32 >>> ((6 : Int32) &&& 31).toUInt32).toInt32) &&& (3 : Int32))), .val (.ref b1), .val (.ref b3), .val (.ref b4), .val (.ref b6), .val (.int te), .unset] [(.ref b43)]))) (st43) ?_
          refine go_of (B := (T43.setTop (mkF m 296 #[.val (.int p1), .val (.int p2), .val (.int av), .val (.int bv), .val (.int md), .val (.int l1), .val (.int l2), .val (.int x0), .val (.int x1), .val (.int y0), .val (.int y1), .val (.int q), .val (.int (((md.toUInt32 >>> ((6 : Int32) &&& 31).toUInt32).toInt32) &&& (3 : Int32))), .val (.ref b1), .val (.ref b3), .val (.ref b4), .val (.ref b6), .val (.int te), .unset] [(.int x1), (.int x0), (.int l1), (.int p1), (.ref b43), (.ref b43)]))) (fun _ kk => XS.dup X43.here hx rfl (hb hby at_288) rfl rfl (XS.iloadN X43.here hx rfl (hb hby at_289) rfl (XS.iload X43.here hx rfl (hb hby at_290) rfl (XS.iload X43.here hx rfl (hb hby at_292) rfl (XS.iload X43.here hx rfl (hb hby at_294) rfl kk))))) ?_
          have cf_44 := ((((((cf_2.keep K3 all0).ext E4).keep K5 (allS (by first | omega | exact own_ne (by omega) | exact own_le (by omega) | exact own_lt (by omega)) all0)).ext E6).keep K7 (allS (by first | omega | exact own_ne (by omega) | exact own_le (by omega) | exact own_lt (by omega)) all0)).ext E43)
          obtain ⟨_, _, ⟨T45, L45, k45, n45⟩, -, X45', hS45', gr45, ⟨Lc45, hQ45, l45, y45, z45, HR45⟩, st45⟩ := callSS X43 hx (y := MN2) hown (mvT hZ (wd 0 rfl)) (mvT hZ (wd 1 rfl)) (mvT hZ (wd 2 rfl)) (mvT hZ (wd 3 rfl)) (by decide) (backOfSH (W := 3) (rm1 l Z a0 hw [] l1 x0 x1 gC h43 n0 (by first | omega | exact own_ne (by omega) | exact own_le (by omega) | exact own_lt (by omega)) cf_44 SC hgC hx0 hx1) hZ (wd 3 rfl) (wd 2 rfl) (by decide) (by decide) hEL HC43.1) (g := (mkF m 296 #[.val (.int p1), .val (.int p2), .val (.int av), .val (.int bv), .val (.int md), .val (.int l1), .val (.int l2), .val (.int x0), .val (.int x1), .val (.int y0), .val (.int y1), .val (.int q), .val (.int (((md.toUInt32 >>> ((6 : Int32) &&& 31).toUInt32).toInt32) &&& (3 : Int32))), .val (.ref b1), .val (.ref b3), .val (.ref b4), .val (.ref b6), .val (.int te), .unset] [(.int x1), (.int x0), (.int l1), (.int p1), (.ref b43), (.ref b43)])) rfl (by rw [hml]; rfl) (argsL := [(.int l1), (.int x0), (.int x1)]) (rest := [(.int p1), (.ref b43), (.ref b43)]) (lenOf pd__ICC_Ljava_lang_String_ rfl) rfl (by show 2 * 0 + _ ≤ _; exact Nat.le_of_eq rfl) (hb hby at_296) (fun _ _ => ⟨rfl, e43, (by decide : 15 + 6 ≤ _), (by decide : 30 + 12 ≤ _)⟩)
          dsimp only [Pt.U, Pt.locs, Pt.cells, Pt.slots] at X45' hS45' gr45 l45 y45 z45 st45 hQ45 HR45
          subst l45 y45 z45
          have X45 : Stand _ _ _ _ (s.setVm T45.vm) _ _ _ _ _ T45 _ _ _ := X45'
          have hS : s.Since T45.vm T45.heap.size := foldS hS (by rw [e43]; omega) hS45' gr45
          have hZ : Z.Warmed39 (s.setVm T45.vm).vm := State.Warmed39.trans (t := s.setVm T3.vm) hZ hS45'.1
          have hown : (s.setVm T45.vm).vm.findClass "com/example/grantline/grantline/PermissionKeyEqualsPinLaw" = some m.cls := by rw [show (s.setVm T45.vm).vm = T45.vm from rfl, hS45'.1.alike.findClass]; exact hown
          obtain ⟨b45, rfl, N45q, lo45, K45, S45⟩ := hQ45
          have lo45 := own_nle lo45
          have N45 := Fr.app N7 N45q
          have hi45 := own_nlt (S45.exa.lt)
          have sz45 := K45.1
          have HC45 := HC43.trans HR45
          have cf_46 := ((((A5.1.ext E6).keep K7).ext E43).keep K45)
          have od_47 := Ord.of cf_46 (wd 27 rfl) (by decide)
          have cf_48 := ((A7.1.ext E43).keep K45)
          have od_49 := Ord.of cf_48 (wd 27 rfl) (by decide)
          have cf_50 := (A43.keep K45)
          have od_51 := Ord.of cf_50 (wd 27 rfl) (by decide)
          refine go_tr (B := (T45.setTop (mkF m 299 #[.val (.int p1), .val (.int p2), .val (.int av), .val (.int bv), .val (.int md), .val (.int l1), .val (.int l2), .val (.int x0), .val (.int x1), .val (.int y0), .val (.int y1), .val (.int q), .val (.int (((md.toUInt32 >>> ((6 : Int32) &&& 31).toUInt32).toInt32) &&& (3 : Int32))), .val (.ref b1), .val (.ref b3), .val (.ref b4), .val (.ref b6), .val (.int te), .unset] [(.ref b45), (.int p1), (.ref b43), (.ref b43)]))) (st45) ?_
          have cf_52 := (F43_part.keep K45 nin0)
          have cf_53 := (F43_text.keep K45 nin0)
          obtain ⟨_, _, ⟨T54, L54, k54, n54⟩, -, X54, ⟨Lc54, hQ54, l54, y54, z54⟩, st54⟩ := X45.specialBack hx (y := MN0) rfl hown (mvT hZ (wd 29 rfl)) (mvT hZ (wd 30 rfl)) (mvT hZ (wd 31 rfl)) (by decide) (backOf (W := 1) (rm5 l Z a0 hw [] b43 p1 b45 _ _ T45.heap n0 (by first | omega | exact own_ne (by omega) | exact own_le (by omega) | exact own_lt (by omega)) cf_50 cf_52 cf_53 (by first | omega | exact own_ne (by omega) | exact own_le (by omega) | exact own_lt (by omega))) hZ (wd 31 rfl) (wd 28 rfl) (by decide) (by decide)) (g := (mkF m 299 #[.val (.int p1), .val (.int p2), .val (.int av), .val (.int bv), .val (.int md), .val (.int l1), .val (.int l2), .val (.int x0), .val (.int x1), .val (.int y0), .val (.int y1), .val (.int q), .val (.int (((md.toUInt32 >>> ((6 : Int32) &&& 31).toUInt32).toInt32) &&& (3 : Int32))), .val (.ref b1), .val (.ref b3), .val (.ref b4), .val (.ref b6), .val (.int te), .unset] [(.ref b45), (.int p1), (.ref b43), (.ref b43)])) rfl (by rw [hml]; rfl) (Steps.refl _) (a := b43) (argsL := [(.int p1), (.ref b45)]) (rest := [(.ref b43)]) (lenOf pd__ILjava_lang_String__V rfl) rfl (by show 2 * 0 + _ ≤ _; exact Nat.le_of_eq rfl) (hb hby at_299) (fun _ _ => ⟨rfl, rfl, (by decide : 21 + 0 ≤ _), (by decide : 42 + 0 ≤ _)⟩)
          dsimp only [Pt.U, Pt.locs, Pt.cells, Pt.slots] at X54 l54 y54 z54 st54 hQ54
          subst l54 y54 z54
          obtain ⟨rfl, N54q, K54, A54⟩ := hQ54
          have N54 := Fr.app N45 N54q
          have sz54 := K54.1
          have SK54 : ∀ x ∈ [b43], Safe Z own_EL _ T45.heap x := (allS (Safe.exa hZ.alike cf_50 (by decide) (by decide) : (Safe Z own_EL _ T45.heap b43)) all0)
          have HC54 := HC45.trans (CHr.keep K54 SK54 HC45.1)
          refine go_tr (B := (T54.setTop (mkF m 302 #[.val (.int p1), .val (.int p2), .val (.int av), .val (.int bv), .val (.int md), .val (.int l1), .val (.int l2), .val (.int x0), .val (.int x1), .val (.int y0), .val (.int y1), .val (.int q), .val (.int (((md.toUInt32 >>> ((6 : Int32) &&& 31).toUInt32).toInt32) &&& (3 : Int32))), .val (.ref b1), .val (.ref b3), .val (.ref b4), .val (.ref b6), .val (.int te), .unset] [(.ref b43)]))) (st54) ?_
          refine go_of (B := (T54.setTop (mkF m 308 #[.val (.int p1), .val (.int p2), .val (.int av), .val (.int bv), .val (.int md), .val (.int l1), .val (.int l2), .val (.int x0), .val (.int x1), .val (.int y0), .val (.int y1), .val (.int q), .val (.int (((md.toUInt32 >>> ((6 : Int32) &&& 31).toUInt32).toInt32) &&& (3 : Int32))), .val (.ref b1), .val (.ref b3), .val (.ref b4), .val (.ref b6), .val (.int te), .val (.ref b43)] [(.ref b4), (.ref b4)]))) (fun _ kk => XS.astore X54.here hx rfl (hb hby at_302) rfl rfl rfl (XS.aload X54.here hx rfl (hb hby at_304) rfl rfl (XS.aload X54.here hx rfl (hb hby at_306) rfl rfl kk))) ?_
          have cf_55 := S1.keep (((((((((Keep.refl T1.heap []).trans K3 all0).ext E4).trans K5 (allS (Or.inr (by first | omega | exact own_ne (by omega) | exact own_le (by omega) | exact own_lt (by omega))) all0)).ext E6).trans K7 (allS (Or.inr (by first | omega | exact own_ne (by omega) | exact own_le (by omega) | exact own_lt (by omega))) all0)).ext E43).trans K45 all0).trans K54 (allS (Or.inr (by first | omega | exact own_ne (by omega) | exact own_le (by omega) | exact own_lt (by omega))) all0)) all0
          have cf_56 := ((cf_44.keep K45 all0).keep K54 (allS (by first | omega | exact own_ne (by omega) | exact own_le (by omega) | exact own_lt (by omega)) all0))
          have cf_57 := (cf_46.keep K54)
          have cf_58 := (((((A5.2.1.ext E6).keep K7 (ninS (by first | omega | exact own_ne (by omega) | exact own_le (by omega) | exact own_lt (by omega)) nin0)).ext E43).keep K45 nin0).keep K54 (ninS (by first | omega | exact own_ne (by omega) | exact own_le (by omega) | exact own_lt (by omega)) nin0))
          have cf_59 := (((((A5.2.2.ext E6).keep K7 (ninS (by first | omega | exact own_ne (by omega) | exact own_le (by omega) | exact own_lt (by omega)) nin0)).ext E43).keep K45 nin0).keep K54 (ninS (by first | omega | exact own_ne (by omega) | exact own_le (by omega) | exact own_lt (by omega)) nin0))
          obtain ⟨cq60, kq60, q60a, q60b, q60c⟩ := isOf hZ rfl cf_57
          obtain ⟨_, _, ⟨T60, L60, k60, n60⟩, -, X60, ⟨Lc60, hQ60, l60, y60, z60⟩, st60⟩ := X54.virtualBack hx (y := MN1) (z := MN1) hown (mvT hZ (wd 42 rfl)) (mvT hZ (wd 43 rfl)) (notFace_of_selects (args := #[]) (mvT hZ (wd 45 rfl))) (mvT hZ (wd 45 rfl)) (mvT hZ (wd 44 rfl)) (by decide) (backOf (W := 0) (eq_same l Z a0 hw [] b4 b4 p1 p1 b1 b1 (own_mk l1 x0 x1) (own_mk l1 x0 x1) gC T54.heap n0 (by first | omega | exact own_ne (by omega) | exact own_le (by omega) | exact own_lt (by omega)) cf_56 SC hgC ⟨cf_57, cf_58, cf_59⟩ ⟨cf_57, cf_58, cf_59⟩ cf_55 cf_55 (fun _ => rfl)) hZ (wd 46 rfl) (wd 28 rfl) (by decide) (by decide)) q60a q60c (g := (mkF m 308 #[.val (.int p1), .val (.int p2), .val (.int av), .val (.int bv), .val (.int md), .val (.int l1), .val (.int l2), .val (.int x0), .val (.int x1), .val (.int y0), .val (.int y1), .val (.int q), .val (.int (((md.toUInt32 >>> ((6 : Int32) &&& 31).toUInt32).toInt32) &&& (3 : Int32))), .val (.ref b1), .val (.ref b3), .val (.ref b4), .val (.ref b6), .val (.int te), .val (.ref b43)] [(.ref b4), (.ref b4)])) rfl (by rw [hml]; rfl) (Steps.refl _) (argsL := [(.ref b4)]) (rest := []) (lenOf pd__Ljava_lang_Object__Z rfl) rfl (by show 2 * 0 + _ ≤ _; exact Nat.le_of_eq rfl) (hb hby at_308) (fun _ _ => ⟨rfl, rfl, (by decide : 21 + 0 ≤ _), (by decide : 42 + 0 ≤ _)⟩)
          dsimp only [Pt.U, Pt.locs, Pt.cells, Pt.slots] at X60 l60 y60 z60 st60 hQ60
          subst l60 y60 z60
          obtain ⟨rfl, N60q, e60⟩ := hQ60
          have N60 := Fr.app N54 N60q
          refine go_tr (B := (T60.setTop (mkF m 311 #[.val (.int p1), .val (.int p2), .val (.int av), .val (.int bv), .val (.int md), .val (.int l1), .val (.int l2), .val (.int x0), .val (.int x1), .val (.int y0), .val (.int y1), .val (.int q), .val (.int (((md.toUInt32 >>> ((6 : Int32) &&& 31).toUInt32).toInt32) &&& (3 : Int32))), .val (.ref b1), .val (.ref b3), .val (.ref b4), .val (.ref b6), .val (.int te), .val (.ref b43)] [(.int (own_keq p1 p1 (own_mk l1 x0 x1) (own_mk l1 x0 x1)))]))) (st60) ?_
          refine go_of (B := (T60.setTop (mkF m 318 #[.val (.int p1), .val (.int p2), .val (.int av), .val (.int bv), .val (.int md), .val (.int l1), .val (.int l2), .val (.int x0), .val (.int x1), .val (.int y0), .val (.int y1), .val (.int q), .val (.int (((md.toUInt32 >>> ((6 : Int32) &&& 31).toUInt32).toInt32) &&& (3 : Int32))), .val (.ref b1), .val (.ref b3), .val (.ref b4), .val (.ref b6), .val (.int te), .val (.ref b43)] [(.ref b43), (.ref b4)]))) (fun _ kk => XS.ifNo X60.here hx rfl (hb hby at_311) rfl ((if0 _ _).trans (feq (own_keqs _ _)).1) (XS.aload X60.here hx rfl (hb hby at_314) rfl rfl (XS.aload X60.here hx rfl (hb hby at_316) rfl rfl kk))) ?_
          have cf_61 := S45.keep ((Keep.refl T45.heap [b43]).trans K54 (allS (Or.inl (List.mem_of_getElem? (i := 0) rfl)) all0)) (allS od_51 all0)
          obtain ⟨cq62, kq62, q62a, q62b, q62c⟩ := isOf hZ e60 cf_57
          obtain ⟨_, _, ⟨T62, L62, k62, n62⟩, -, X62, ⟨Lc62, hQ62, l62, y62, z62⟩, st62⟩ := X60.virtualBack hx (y := MN1) (z := MN1) hown (mvT hZ (wd 42 rfl)) (mvT hZ (wd 43 rfl)) (notFace_of_selects (args := #[]) (mvT hZ (wd 45 rfl))) (mvT hZ (wd 45 rfl)) (mvT hZ (wd 44 rfl)) (by decide) (backOf (W := 0) (eq_same l Z a0 hw [] b4 b43 p1 p1 b1 b45 (own_mk l1 x0 x1) (own_mk l1 x0 x1) gC T54.heap n0 (by first | omega | exact own_ne (by omega) | exact own_le (by omega) | exact own_lt (by omega)) cf_56 SC hgC ⟨cf_57, cf_58, cf_59⟩ ⟨A54.1, A54.2.1, A54.2.2⟩ cf_55 cf_61 (fun q => absurd q (own_ne (by first | omega | exact own_ne (by omega) | exact own_le (by omega) | exact own_lt (by omega))))) hZ (wd 46 rfl) (wd 28 rfl) (by decide) (by decide)) q62a q62c (g := (mkF m 318 #[.val (.int p1), .val (.int p2), .val (.int av), .val (.int bv), .val (.int md), .val (.int l1), .val (.int l2), .val (.int x0), .val (.int x1), .val (.int y0), .val (.int y1), .val (.int q), .val (.int (((md.toUInt32 >>> ((6 : Int32) &&& 31).toUInt32).toInt32) &&& (3 : Int32))), .val (.ref b1), .val (.ref b3), .val (.ref b4), .val (.ref b6), .val (.int te), .val (.ref b43)] [(.ref b43), (.ref b4)])) rfl (by rw [hml]; rfl) (Steps.refl _) (argsL := [(.ref b43)]) (rest := []) (lenOf pd__Ljava_lang_Object__Z rfl) rfl (by show 2 * 0 + _ ≤ _; exact Nat.le_of_eq rfl) (hb hby at_318) (fun _ _ => ⟨rfl, e60, (by decide : 21 + 0 ≤ _), (by decide : 42 + 0 ≤ _)⟩)
          dsimp only [Pt.U, Pt.locs, Pt.cells, Pt.slots] at X62 l62 y62 z62 st62 hQ62
          subst l62 y62 z62
          obtain ⟨rfl, N62q, e62⟩ := hQ62
          have N62 := Fr.app N60 N62q
          refine go_tr (B := (T62.setTop (mkF m 321 #[.val (.int p1), .val (.int p2), .val (.int av), .val (.int bv), .val (.int md), .val (.int l1), .val (.int l2), .val (.int x0), .val (.int x1), .val (.int y0), .val (.int y1), .val (.int q), .val (.int (((md.toUInt32 >>> ((6 : Int32) &&& 31).toUInt32).toInt32) &&& (3 : Int32))), .val (.ref b1), .val (.ref b3), .val (.ref b4), .val (.ref b6), .val (.int te), .val (.ref b43)] [(.int (own_keq p1 p1 (own_mk l1 x0 x1) (own_mk l1 x0 x1)))]))) (st62) ?_
          refine go_of (B := (T62.setTop (mkF m 328 #[.val (.int p1), .val (.int p2), .val (.int av), .val (.int bv), .val (.int md), .val (.int l1), .val (.int l2), .val (.int x0), .val (.int x1), .val (.int y0), .val (.int y1), .val (.int q), .val (.int (((md.toUInt32 >>> ((6 : Int32) &&& 31).toUInt32).toInt32) &&& (3 : Int32))), .val (.ref b1), .val (.ref b3), .val (.ref b4), .val (.ref b6), .val (.int te), .val (.ref b43)] [(.ref b4), (.ref b43)]))) (fun _ kk => XS.ifNo X62.here hx rfl (hb hby at_321) rfl ((if0 _ _).trans (feq (own_keqs _ _)).1) (XS.aload X62.here hx rfl (hb hby at_324) rfl rfl (XS.aload X62.here hx rfl (hb hby at_326) rfl rfl kk))) ?_
          obtain ⟨cq63, kq63, q63a, q63b, q63c⟩ := isOf hZ e62 A54.1
          obtain ⟨_, _, ⟨T63, L63, k63, n63⟩, -, X63, ⟨Lc63, hQ63, l63, y63, z63⟩, st63⟩ := X62.virtualBack hx (y := MN1) (z := MN1) hown (mvT hZ (wd 42 rfl)) (mvT hZ (wd 43 rfl)) (notFace_of_selects (args := #[]) (mvT hZ (wd 45 rfl))) (mvT hZ (wd 45 rfl)) (mvT hZ (wd 44 rfl)) (by decide) (backOf (W := 0) (eq_same l Z a0 hw [] b43 b4 p1 p1 b45 b1 (own_mk l1 x0 x1) (own_mk l1 x0 x1) gC T54.heap n0 (by first | omega | exact own_ne (by omega) | exact own_le (by omega) | exact own_lt (by omega)) cf_56 SC hgC ⟨A54.1, A54.2.1, A54.2.2⟩ ⟨cf_57, cf_58, cf_59⟩ cf_61 cf_55 (fun q => absurd q (own_ne (by first | omega | exact own_ne (by omega) | exact own_le (by omega) | exact own_lt (by omega))))) hZ (wd 46 rfl) (wd 28 rfl) (by decide) (by decide)) q63a q63c (g := (mkF m 328 #[.val (.int p1), .val (.int p2), .val (.int av), .val (.int bv), .val (.int md), .val (.int l1), .val (.int l2), .val (.int x0), .val (.int x1), .val (.int y0), .val (.int y1), .val (.int q), .val (.int (((md.toUInt32 >>> ((6 : Int32) &&& 31).toUInt32).toInt32) &&& (3 : Int32))), .val (.ref b1), .val (.ref b3), .val (.ref b4), .val (.ref b6), .val (.int te), .val (.ref b43)] [(.ref b4), (.ref b43)])) rfl (by rw [hml]; rfl) (Steps.refl _) (argsL := [(.ref b4)]) (rest := []) (lenOf pd__Ljava_lang_Object__Z rfl) rfl (by show 2 * 0 + _ ≤ _; exact Nat.le_of_eq rfl) (hb hby at_328) (fun _ _ => ⟨rfl, e62, (by decide : 21 + 0 ≤ _), (by decide : 42 + 0 ≤ _)⟩)
          dsimp only [Pt.U, Pt.locs, Pt.cells, Pt.slots] at X63 l63 y63 z63 st63 hQ63
          subst l63 y63 z63
          obtain ⟨rfl, N63q, e63⟩ := hQ63
          have N63 := Fr.app N62 N63q
          refine go_tr (B := (T63.setTop (mkF m 331 #[.val (.int p1), .val (.int p2), .val (.int av), .val (.int bv), .val (.int md), .val (.int l1), .val (.int l2), .val (.int x0), .val (.int x1), .val (.int y0), .val (.int y1), .val (.int q), .val (.int (((md.toUInt32 >>> ((6 : Int32) &&& 31).toUInt32).toInt32) &&& (3 : Int32))), .val (.ref b1), .val (.ref b3), .val (.ref b4), .val (.ref b6), .val (.int te), .val (.ref b43)] [(.int (own_keq p1 p1 (own_mk l1 x0 x1) (own_mk l1 x0 x1)))]))) (st63) ?_
          refine go_of (B := (T63.setTop (mkF m 339 #[.val (.int p1), .val (.int p2), .val (.int av), .val (.int bv), .val (.int md), .val (.int l1), .val (.int l2), .val (.int x0), .val (.int x1), .val (.int y0), .val (.int y1), .val (.int q), .val (.int (((md.toUInt32 >>> ((6 : Int32) &&& 31).toUInt32).toInt32) &&& (3 : Int32))), .val (.ref b1), .val (.ref b3), .val (.ref b4), .val (.ref b6), .val (.int te), .val (.ref b43)] [(.int (1 : Int32))]))) (fun _ kk => XS.ifNo X63.here hx rfl (hb hby at_331) rfl ((if0 _ _).trans (feq (own_keqs _ _)).1) (XS.iconst X63.here hx rfl (hb hby at_334) (XS.goto X63.here hx rfl (pc0 := 335) (pc' := 339) rfl (hb hby at_335) (by decide) (by decide) kk))) ?_
          refine go_endH X63 hZ hEL HC54 hh0 e63 hS (by rw [e63]; omega) (v := some (.int (nar .boolean (1 : Int32)))) (fun h => by rw [hret] at h; cases h) hlk (by decide) (by decide) (Q := (Q_rm0 Z p1 p2 av bv md gC h0 n0)) ?_ (fun fs hr => retN X63 hx (t := .boolean) hret (by simp) (hb hby at_339) hr)
          unfold Q_rm0
          try rw [e63]
          exact ⟨rfl, N63⟩
  refine go_of (B := (T7.setTop (mkF m 153 #[.val (.int p1), .val (.int p2), .val (.int av), .val (.int bv), .val (.int md), .val (.int l1), .val (.int l2), .val (.int x0), .val (.int x1), .val (.int y0), .val (.int y1), .val (.int q), .val (.int (((md.toUInt32 >>> ((6 : Int32) &&& 31).toUInt32).toInt32) &&& (3 : Int32))), .val (.ref b1), .val (.ref b3), .val (.ref b4), .val (.ref b6), .unset, .unset] [(.int l2), (.int l1)]))) (fun _ kk => XS.iload X7.here hx rfl (hb hby at_149) rfl (XS.iload X7.here hx rfl (hb hby at_151) rfl kk)) ?_
  by_cases hcc64 : l1 = l2
  · refine go_of (B := (T7.setTop (mkF m 159 #[.val (.int p1), .val (.int p2), .val (.int av), .val (.int bv), .val (.int md), .val (.int l1), .val (.int l2), .val (.int x0), .val (.int x1), .val (.int y0), .val (.int y1), .val (.int q), .val (.int (((md.toUInt32 >>> ((6 : Int32) &&& 31).toUInt32).toInt32) &&& (3 : Int32))), .val (.ref b1), .val (.ref b3), .val (.ref b4), .val (.ref b6), .unset, .unset] [(.int (1 : Int32)), (.int l1)]))) (fun _ kk => XS.icmpNo X7.here hx rfl (hb hby at_153) rfl (teq hcc64).2 (XS.iload X7.here hx rfl (hb hby at_156) rfl (XS.iconst X7.here hx rfl (hb hby at_158) kk))) ?_
    by_cases hcc65 : l1 < (1 : Int32)
    · refine go_of (B := (T7.setTop (mkF m 187 #[.val (.int p1), .val (.int p2), .val (.int av), .val (.int bv), .val (.int md), .val (.int l1), .val (.int l2), .val (.int x0), .val (.int x1), .val (.int y0), .val (.int y1), .val (.int q), .val (.int (((md.toUInt32 >>> ((6 : Int32) &&& 31).toUInt32).toInt32) &&& (3 : Int32))), .val (.ref b1), .val (.ref b3), .val (.ref b4), .val (.ref b6), .unset, .unset] [(.int (1 : Int32))]))) (fun _ kk => XS.icmpYes X7.here hx rfl (pc0 := 159) (pc' := 169) rfl (hb hby at_159) rfl (tlt hcc65).1 (by decide) (by decide) (XS.iload X7.here hx rfl (hb hby at_169) rfl (XS.iconst X7.here hx rfl (hb hby at_171) (XS.icmpYes X7.here hx rfl (pc0 := 172) (pc' := 182) rfl (hb hby at_172) rfl (tlt (own_l12 hcc65)).1 (by decide) (by decide) (XS.iconst X7.here hx rfl (hb hby at_182) (XS.goto X7.here hx rfl (pc0 := 183) (pc' := 187) rfl (hb hby at_183) (by decide) (by decide) kk)))))) ?_
      refine go_of (B := (T7.setTop (mkF m 189 #[.val (.int p1), .val (.int p2), .val (.int av), .val (.int bv), .val (.int md), .val (.int l1), .val (.int l2), .val (.int x0), .val (.int x1), .val (.int y0), .val (.int y1), .val (.int q), .val (.int (((md.toUInt32 >>> ((6 : Int32) &&& 31).toUInt32).toInt32) &&& (3 : Int32))), .val (.ref b1), .val (.ref b3), .val (.ref b4), .val (.ref b6), .val (.int (1 : Int32)), .unset] []))) (fun _ kk => XS.istore X7.here hx rfl (hb hby at_187) rfl rfl kk) ?_
      exact HJ8 (1 : Int32) (by rw [own_eqv, if_pos ((own_mkeq x0 x1 y0 y1 hl1 hl2).mpr ⟨hcc64, (Or.inl hcc65), (Or.inl (own_l12 hcc65))⟩)])
    · refine go_of (B := (T7.setTop (mkF m 166 #[.val (.int p1), .val (.int p2), .val (.int av), .val (.int bv), .val (.int md), .val (.int l1), .val (.int l2), .val (.int x0), .val (.int x1), .val (.int y0), .val (.int y1), .val (.int q), .val (.int (((md.toUInt32 >>> ((6 : Int32) &&& 31).toUInt32).toInt32) &&& (3 : Int32))), .val (.ref b1), .val (.ref b3), .val (.ref b4), .val (.ref b6), .unset, .unset] [(.int y0), (.int x0)]))) (fun _ kk => XS.icmpNo X7.here hx rfl (hb hby at_159) rfl (flt hcc65).1 (XS.iload X7.here hx rfl (hb hby at_162) rfl (XS.iload X7.here hx rfl (hb hby at_164) rfl kk))) ?_
      by_cases hcc66 : x0 = y0
      · refine go_of (B := (T7.setTop (mkF m 172 #[.val (.int p1), .val (.int p2), .val (.int av), .val (.int bv), .val (.int md), .val (.int l1), .val (.int l2), .val (.int x0), .val (.int x1), .val (.int y0), .val (.int y1), .val (.int q), .val (.int (((md.toUInt32 >>> ((6 : Int32) &&& 31).toUInt32).toInt32) &&& (3 : Int32))), .val (.ref b1), .val (.ref b3), .val (.ref b4), .val (.ref b6), .unset, .unset] [(.int (2 : Int32)), (.int l1)]))) (fun _ kk => XS.icmpNo X7.here hx rfl (hb hby at_166) rfl (teq hcc66).2 (XS.iload X7.here hx rfl (hb hby at_169) rfl (XS.iconst X7.here hx rfl (hb hby at_171) kk))) ?_
        by_cases hcc67 : l1 < (2 : Int32)
        · refine go_of (B := (T7.setTop (mkF m 189 #[.val (.int p1), .val (.int p2), .val (.int av), .val (.int bv), .val (.int md), .val (.int l1), .val (.int l2), .val (.int x0), .val (.int x1), .val (.int y0), .val (.int y1), .val (.int q), .val (.int (((md.toUInt32 >>> ((6 : Int32) &&& 31).toUInt32).toInt32) &&& (3 : Int32))), .val (.ref b1), .val (.ref b3), .val (.ref b4), .val (.ref b6), .val (.int (1 : Int32)), .unset] []))) (fun _ kk => XS.icmpYes X7.here hx rfl (pc0 := 172) (pc' := 182) rfl (hb hby at_172) rfl (tlt hcc67).1 (by decide) (by decide) (XS.iconst X7.here hx rfl (hb hby at_182) (XS.goto X7.here hx rfl (pc0 := 183) (pc' := 187) rfl (hb hby at_183) (by decide) (by decide) (XS.istore X7.here hx rfl (hb hby at_187) rfl rfl kk)))) ?_
          exact HJ8 (1 : Int32) (by rw [own_eqv, if_pos ((own_mkeq x0 x1 y0 y1 hl1 hl2).mpr ⟨hcc64, (Or.inr hcc66), (Or.inl hcc67)⟩)])
        · refine go_of (B := (T7.setTop (mkF m 179 #[.val (.int p1), .val (.int p2), .val (.int av), .val (.int bv), .val (.int md), .val (.int l1), .val (.int l2), .val (.int x0), .val (.int x1), .val (.int y0), .val (.int y1), .val (.int q), .val (.int (((md.toUInt32 >>> ((6 : Int32) &&& 31).toUInt32).toInt32) &&& (3 : Int32))), .val (.ref b1), .val (.ref b3), .val (.ref b4), .val (.ref b6), .unset, .unset] [(.int y1), (.int x1)]))) (fun _ kk => XS.icmpNo X7.here hx rfl (hb hby at_172) rfl (flt hcc67).1 (XS.iload X7.here hx rfl (hb hby at_175) rfl (XS.iload X7.here hx rfl (hb hby at_177) rfl kk))) ?_
          by_cases hcc68 : x1 = y1
          · refine go_of (B := (T7.setTop (mkF m 189 #[.val (.int p1), .val (.int p2), .val (.int av), .val (.int bv), .val (.int md), .val (.int l1), .val (.int l2), .val (.int x0), .val (.int x1), .val (.int y0), .val (.int y1), .val (.int q), .val (.int (((md.toUInt32 >>> ((6 : Int32) &&& 31).toUInt32).toInt32) &&& (3 : Int32))), .val (.ref b1), .val (.ref b3), .val (.ref b4), .val (.ref b6), .val (.int (1 : Int32)), .unset] []))) (fun _ kk => XS.icmpNo X7.here hx rfl (hb hby at_179) rfl (teq hcc68).2 (XS.iconst X7.here hx rfl (hb hby at_182) (XS.goto X7.here hx rfl (pc0 := 183) (pc' := 187) rfl (hb hby at_183) (by decide) (by decide) (XS.istore X7.here hx rfl (hb hby at_187) rfl rfl kk)))) ?_
            exact HJ8 (1 : Int32) (by rw [own_eqv, if_pos ((own_mkeq x0 x1 y0 y1 hl1 hl2).mpr ⟨hcc64, (Or.inr hcc66), (Or.inr hcc68)⟩)])
          · refine go_of (B := (T7.setTop (mkF m 189 #[.val (.int p1), .val (.int p2), .val (.int av), .val (.int bv), .val (.int md), .val (.int l1), .val (.int l2), .val (.int x0), .val (.int x1), .val (.int y0), .val (.int y1), .val (.int q), .val (.int (((md.toUInt32 >>> ((6 : Int32) &&& 31).toUInt32).toInt32) &&& (3 : Int32))), .val (.ref b1), .val (.ref b3), .val (.ref b4), .val (.ref b6), .val (.int (0 : Int32)), .unset] []))) (fun _ kk => XS.icmpYes X7.here hx rfl (pc0 := 179) (pc' := 186) rfl (hb hby at_179) rfl (feq hcc68).2 (by decide) (by decide) (XS.iconst X7.here hx rfl (hb hby at_186) (XS.istore X7.here hx rfl (hb hby at_187) rfl rfl kk))) ?_
            exact HJ8 (0 : Int32) (by rw [own_eqv, if_neg (fun qq => ((own_mkeq x0 x1 y0 y1 hl1 hl2).mp qq).2.2.elim hcc67 hcc68)])
      · refine go_of (B := (T7.setTop (mkF m 189 #[.val (.int p1), .val (.int p2), .val (.int av), .val (.int bv), .val (.int md), .val (.int l1), .val (.int l2), .val (.int x0), .val (.int x1), .val (.int y0), .val (.int y1), .val (.int q), .val (.int (((md.toUInt32 >>> ((6 : Int32) &&& 31).toUInt32).toInt32) &&& (3 : Int32))), .val (.ref b1), .val (.ref b3), .val (.ref b4), .val (.ref b6), .val (.int (0 : Int32)), .unset] []))) (fun _ kk => XS.icmpYes X7.here hx rfl (pc0 := 166) (pc' := 186) rfl (hb hby at_166) rfl (feq hcc66).2 (by decide) (by decide) (XS.iconst X7.here hx rfl (hb hby at_186) (XS.istore X7.here hx rfl (hb hby at_187) rfl rfl kk))) ?_
        exact HJ8 (0 : Int32) (by rw [own_eqv, if_neg (fun qq => ((own_mkeq x0 x1 y0 y1 hl1 hl2).mp qq).2.1.elim hcc65 hcc66)])
  · refine go_of (B := (T7.setTop (mkF m 189 #[.val (.int p1), .val (.int p2), .val (.int av), .val (.int bv), .val (.int md), .val (.int l1), .val (.int l2), .val (.int x0), .val (.int x1), .val (.int y0), .val (.int y1), .val (.int q), .val (.int (((md.toUInt32 >>> ((6 : Int32) &&& 31).toUInt32).toInt32) &&& (3 : Int32))), .val (.ref b1), .val (.ref b3), .val (.ref b4), .val (.ref b6), .val (.int (0 : Int32)), .unset] []))) (fun _ kk => XS.icmpYes X7.here hx rfl (pc0 := 153) (pc' := 186) rfl (hb hby at_153) rfl (feq hcc64).2 (by decide) (by decide) (XS.iconst X7.here hx rfl (hb hby at_186) (XS.istore X7.here hx rfl (hb hby at_187) rfl rfl kk))) ?_
    exact HJ8 (0 : Int32) (by rw [own_eqv, if_neg (fun qq => hcc64 ((own_mkeq x0 x1 y0 y1 hl1 hl2).mp qq).1)])
theorem ef_rm0 (m : MethodId) (p1 : Int32) (p2 : Int32) (av : Int32) (bv : Int32) (md : Int32)  : entryFrame m #[(.int p1), (.int p2), (.int av), (.int bv), (.int md)] maxLocals = mkF m 0 #[.val (.int p1), .val (.int p2), .val (.int av), .val (.int bv), .val (.int md), .unset, .unset, .unset, .unset, .unset, .unset, .unset, .unset, .unset, .unset, .unset, .unset, .unset, .unset] [] := by first | (simp [entryFrame, mkF, argsToLocals, Value.category, maxLocals]; done) | rfl
theorem rm0 (l : Launch) (Z : State) (a0 : Array Value) (hw : TW a0 Z) (ws : List Jvm.Cond) (p1 : Int32) (p2 : Int32) (av : Int32) (bv : Int32) (md : Int32) (gC : Int32) (h0 : Heap) (n0 : Nat) (Z0 : n0 ≤ h0.size) (O : Old Z n0 h0) (SC : Sta Z Z.heap "java/lang/String" "COMPACT_STRINGS" "Z" (.int gC)) (hgC : ¬ gC = (0 : Int32)) :
    own_MFH l Z x code maxLocals ret ws room_1 #[(.int p1), (.int p2), (.int av), (.int bv), (.int md)] h0 (Q_rm0 Z p1 p2 av bv md gC h0 n0) := by
  have wd := @own_wd _ _ hw
  refine MetFree.of_bodySF (plainFor_of_name pn_com_example_grantline_grantline_PermissionKeyEqualsPinLaw) hisR ?_
  intro p e s m args below meth c s₁ Bd hml0 hP hK
  obtain ⟨rfl, hZ, hh, hCH⟩ := hP
  have hx := Bd.exec
  have hby := Bd.bytes
  have hml : c.maxLocals = 19 := hml0
  have hown : s.vm.findClass "com/example/grantline/grantline/PermissionKeyEqualsPinLaw" = some m.cls := findClass_of_methodNamed Bd.named
  have hnm := (name_of_methodNamed Bd.named Bd.method).1
  have X0 : Stand p l e room_1 (s.setVm s.vm) m #[(.int p1), (.int p2), (.int av), (.int bv), (.int md)] below meth c s₁ [] 0 0 := Stand.of_body Bd
  have e0 : s₁.heap = h0 := by rw [← hh, Bd.state]; rfl
  have N0 := Fr.nil n0
  have hS : s.Since s.vm 0 := (State.WarmedH.refl s).since 0
  have hh0 := hh
  have hEL := own_EW hw
  have HC0 := CHr.refl hCH
  refine go_of (A := s₁.setTop (entryFrame m #[(.int p1), (.int p2), (.int av), (.int bv), (.int md)] maxLocals)) (B := s₁.setTop (mkF m 0 #[.val (.int p1), .val (.int p2), .val (.int av), .val (.int bv), .val (.int md), .unset, .unset, .unset, .unset, .unset, .unset, .unset, .unset, .unset, .unset, .unset, .unset, .unset, .unset] [])) (fun _ kk' => castTop (ef_rm0 m p1 p2 av bv md) kk') ?_
  refine go_of (B := (s₁.setTop (mkF m 8 #[.val (.int p1), .val (.int p2), .val (.int av), .val (.int bv), .val (.int md), .val (.int ((md &&& (3 : Int32)) % (3 : Int32))), .unset, .unset, .unset, .unset, .unset, .unset, .unset, .unset, .unset, .unset, .unset, .unset, .unset] []))) (fun _ kk => XS.iload X0.here hx rfl (hb hby at_0) rfl (XS.iconst X0.here hx rfl (hb hby at_2) (XS.iand X0.here hx rfl (hb hby at_3) rfl (XS.iconst X0.here hx rfl (hb hby at_4) (iremM X0 hx rfl (hb hby at_5) rfl (by decide) (XS.istore X0.here hx rfl (hb hby at_6) rfl rfl kk)))))) ?_
  refine go_of (B := (s₁.setTop (mkF m 15 #[.val (.int p1), .val (.int p2), .val (.int av), .val (.int bv), .val (.int md), .val (.int ((md &&& (3 : Int32)) % (3 : Int32))), .unset, .unset, .unset, .unset, .unset, .unset, .unset, .unset, .unset, .unset, .unset, .unset, .unset] [(.int (3 : Int32)), (.int (((md.toUInt32 >>> ((2 : Int32) &&& 31).toUInt32).toInt32) &&& (3 : Int32)))]))) (fun _ kk => XS.iload X0.here hx rfl (hb hby at_8) rfl (XS.iconst X0.here hx rfl (hb hby at_10) (XS.iushr X0.here hx rfl (hb hby at_11) rfl (XS.iconst X0.here hx rfl (hb hby at_12) (XS.iand X0.here hx rfl (hb hby at_13) rfl (XS.iconst X0.here hx rfl (hb hby at_14) kk)))))) ?_
  refine go_of (B := (s₁.setTop (mkF m 24 #[.val (.int p1), .val (.int p2), .val (.int av), .val (.int bv), .val (.int md), .val (.int ((md &&& (3 : Int32)) % (3 : Int32))), .val (.int ((((md.toUInt32 >>> ((2 : Int32) &&& 31).toUInt32).toInt32) &&& (3 : Int32)) % (3 : Int32))), .unset, .unset, .unset, .unset, .unset, .unset, .unset, .unset, .unset, .unset, .unset, .unset] [(.int ((av &&& (255 : Int32)).toUInt32.toUInt16.toUInt32.toInt32))]))) (fun _ kk => iremM X0 hx rfl (hb hby at_15) rfl (by decide) (XS.istore X0.here hx rfl (hb hby at_16) rfl rfl (XS.iloadN X0.here hx rfl (hb hby at_18) rfl (XS.sipush X0.here hx rfl (hb hby at_19) (XS.iand X0.here hx rfl (hb hby at_22) rfl (XS.i2c X0.here hx rfl (hb hby at_23) rfl kk)))))) ?_
  refine go_of (B := (s₁.setTop (mkF m 34 #[.val (.int p1), .val (.int p2), .val (.int av), .val (.int bv), .val (.int md), .val (.int ((md &&& (3 : Int32)) % (3 : Int32))), .val (.int ((((md.toUInt32 >>> ((2 : Int32) &&& 31).toUInt32).toInt32) &&& (3 : Int32)) % (3 : Int32))), .val (.int (own_ch av)), .unset, .unset, .unset, .unset, .unset, .unset, .unset, .unset, .unset, .unset, .unset] [(.int (((av.toUInt32 >>> ((8 : Int32) &&& 31).toUInt32).toInt32) &&& (255 : Int32)))]))) (fun _ kk => XS.istore X0.here hx rfl (hb hby at_24) rfl rfl (XS.iloadN X0.here hx rfl (hb hby at_26) rfl (XS.bipush X0.here hx rfl (hb hby at_27) (XS.iushr X0.here hx rfl (hb hby at_29) rfl (XS.sipush X0.here hx rfl (hb hby at_30) (XS.iand X0.here hx rfl (hb hby at_33) rfl kk)))))) ?_
  refine go_of (B := (s₁.setTop (mkF m 43 #[.val (.int p1), .val (.int p2), .val (.int av), .val (.int bv), .val (.int md), .val (.int ((md &&& (3 : Int32)) % (3 : Int32))), .val (.int ((((md.toUInt32 >>> ((2 : Int32) &&& 31).toUInt32).toInt32) &&& (3 : Int32)) % (3 : Int32))), .val (.int (own_ch av)), .val (.int (own_ch8 av)), .unset, .unset, .unset, .unset, .unset, .unset, .unset, .unset, .unset, .unset] [(.int ((bv &&& (255 : Int32)).toUInt32.toUInt16.toUInt32.toInt32))]))) (fun _ kk => XS.i2c X0.here hx rfl (hb hby at_34) rfl (XS.istore X0.here hx rfl (hb hby at_35) rfl rfl (XS.iloadN X0.here hx rfl (hb hby at_37) rfl (XS.sipush X0.here hx rfl (hb hby at_38) (XS.iand X0.here hx rfl (hb hby at_41) rfl (XS.i2c X0.here hx rfl (hb hby at_42) rfl kk)))))) ?_
  refine go_of (B := (s₁.setTop (mkF m 53 #[.val (.int p1), .val (.int p2), .val (.int av), .val (.int bv), .val (.int md), .val (.int ((md &&& (3 : Int32)) % (3 : Int32))), .val (.int ((((md.toUInt32 >>> ((2 : Int32) &&& 31).toUInt32).toInt32) &&& (3 : Int32)) % (3 : Int32))), .val (.int (own_ch av)), .val (.int (own_ch8 av)), .val (.int (own_ch bv)), .unset, .unset, .unset, .unset, .unset, .unset, .unset, .unset, .unset] [(.int (((bv.toUInt32 >>> ((8 : Int32) &&& 31).toUInt32).toInt32) &&& (255 : Int32)))]))) (fun _ kk => XS.istore X0.here hx rfl (hb hby at_43) rfl rfl (XS.iloadN X0.here hx rfl (hb hby at_45) rfl (XS.bipush X0.here hx rfl (hb hby at_46) (XS.iushr X0.here hx rfl (hb hby at_48) rfl (XS.sipush X0.here hx rfl (hb hby at_49) (XS.iand X0.here hx rfl (hb hby at_52) rfl kk)))))) ?_
  refine go_of (B := (s₁.setTop (mkF m 61 #[.val (.int p1), .val (.int p2), .val (.int av), .val (.int bv), .val (.int md), .val (.int ((md &&& (3 : Int32)) % (3 : Int32))), .val (.int ((((md.toUInt32 >>> ((2 : Int32) &&& 31).toUInt32).toInt32) &&& (3 : Int32)) % (3 : Int32))), .val (.int (own_ch av)), .val (.int (own_ch8 av)), .val (.int (own_ch bv)), .val (.int (own_ch8 bv)), .unset, .unset, .unset, .unset, .unset, .unset, .unset, .unset] [(.int (1 : Int32)), (.int ((md.toUInt32 >>> ((4 : Int32) &&& 31).toUInt32).toInt32))]))) (fun _ kk => XS.i2c X0.here hx rfl (hb hby at_53) rfl (XS.istore X0.here hx rfl (hb hby at_54) rfl rfl (XS.iload X0.here hx rfl (hb hby at_56) rfl (XS.iconst X0.here hx rfl (hb hby at_58) (XS.iushr X0.here hx rfl (hb hby at_59) rfl (XS.iconst X0.here hx rfl (hb hby at_60) kk)))))) ?_
  refine go_of (B := (s₁.setTop (mkF m 62 #[.val (.int p1), .val (.int p2), .val (.int av), .val (.int bv), .val (.int md), .val (.int ((md &&& (3 : Int32)) % (3 : Int32))), .val (.int ((((md.toUInt32 >>> ((2 : Int32) &&& 31).toUInt32).toInt32) &&& (3 : Int32)) % (3 : Int32))), .val (.int (own_ch av)), .val (.int (own_ch8 av)), .val (.int (own_ch bv)), .val (.int (own_ch8 bv)), .unset, .unset, .unset, .unset, .unset, .unset, .unset, .unset] [(.int (((md.toUInt32 >>> ((4 : Int32) &&& 31).toUInt32).toInt32) &&& (1 : Int32)))]))) (fun _ kk => XS.iand X0.here hx rfl (hb hby at_61) rfl kk) ?_
  by_cases hcc69 : (((md.toUInt32 >>> ((4 : Int32) &&& 31).toUInt32).toInt32) &&& (1 : Int32)) = (0 : Int32)
  · refine go_of (B := (s₁.setTop (mkF m 83 #[.val (.int p1), .val (.int p2), .val (.int av), .val (.int bv), .val (.int md), .val (.int ((md &&& (3 : Int32)) % (3 : Int32))), .val (.int ((((md.toUInt32 >>> ((2 : Int32) &&& 31).toUInt32).toInt32) &&& (3 : Int32)) % (3 : Int32))), .val (.int (own_ch av)), .val (.int (own_ch8 av)), .val (.int (own_ch bv)), .val (.int (own_ch8 bv)), .unset, .unset, .unset, .unset, .unset, .unset, .unset, .unset] [(.int (((md.toUInt32 >>> ((5 : Int32) &&& 31).toUInt32).toInt32) &&& (1 : Int32)))]))) (fun _ kk => XS.ifYes X0.here hx rfl (pc0 := 62) (pc' := 77) rfl (hb hby at_62) rfl ((if0 _ _).trans (teq hcc69).1) (by decide) (by decide) (XS.iload X0.here hx rfl (hb hby at_77) rfl (XS.iconst X0.here hx rfl (hb hby at_79) (XS.iushr X0.here hx rfl (hb hby at_80) rfl (XS.iconst X0.here hx rfl (hb hby at_81) (XS.iand X0.here hx rfl (hb hby at_82) rfl kk)))))) ?_
    by_cases hcc70 : (((md.toUInt32 >>> ((5 : Int32) &&& 31).toUInt32).toInt32) &&& (1 : Int32)) = (0 : Int32)
    · refine go_of (B := (s₁.setTop (mkF m 93 #[.val (.int p1), .val (.int p2), .val (.int av), .val (.int bv), .val (.int md), .val (.int ((md &&& (3 : Int32)) % (3 : Int32))), .val (.int ((((md.toUInt32 >>> ((2 : Int32) &&& 31).toUInt32).toInt32) &&& (3 : Int32)) % (3 : Int32))), .val (.int (own_ch av)), .val (.int (own_ch8 av)), .val (.int (own_ch bv)), .val (.int (own_ch8 bv)), .val (.int p2), .unset, .unset, .unset, .unset, .unset, .unset, .unset] []))) (fun _ kk => XS.ifYes X0.here hx rfl (pc0 := 83) (pc' := 90) rfl (hb hby at_83) rfl ((if0 _ _).trans (teq hcc70).1) (by decide) (by decide) (XS.iloadN X0.here hx rfl (hb hby at_90) rfl (XS.istore X0.here hx rfl (hb hby at_91) rfl rfl kk))) ?_
      exact lw93 p1 p2 av bv md ((md &&& (3 : Int32)) % (3 : Int32)) ((((md.toUInt32 >>> ((2 : Int32) &&& 31).toUInt32).toInt32) &&& (3 : Int32)) % (3 : Int32)) (own_ch av) (own_ch8 av) (own_ch bv) (own_ch8 bv) p2 gC X0 hx hZ hw hby hml hown Bd.returns Bd.notSynchronized e0 N0 (by first | omega | exact own_ne (by omega) | exact own_le (by omega) | exact own_lt (by omega)) O SC hgC (own_3 _) (own_3 _) (own_chr _) (own_chr _) (own_chr _) (own_chr _) hh0 hCH
    · refine go_of (B := (s₁.setTop (mkF m 93 #[.val (.int p1), .val (.int p2), .val (.int av), .val (.int bv), .val (.int md), .val (.int ((md &&& (3 : Int32)) % (3 : Int32))), .val (.int ((((md.toUInt32 >>> ((2 : Int32) &&& 31).toUInt32).toInt32) &&& (3 : Int32)) % (3 : Int32))), .val (.int (own_ch av)), .val (.int (own_ch8 av)), .val (.int (own_ch bv)), .val (.int (own_ch8 bv)), .val (.int p1), .unset, .unset, .unset, .unset, .unset, .unset, .unset] []))) (fun _ kk => XS.ifNo X0.here hx rfl (hb hby at_83) rfl ((if0 _ _).trans (feq hcc70).1) (XS.iloadN X0.here hx rfl (hb hby at_86) rfl (XS.goto X0.here hx rfl (pc0 := 87) (pc' := 91) rfl (hb hby at_87) (by decide) (by decide) (XS.istore X0.here hx rfl (hb hby at_91) rfl rfl kk)))) ?_
      exact lw93 p1 p2 av bv md ((md &&& (3 : Int32)) % (3 : Int32)) ((((md.toUInt32 >>> ((2 : Int32) &&& 31).toUInt32).toInt32) &&& (3 : Int32)) % (3 : Int32)) (own_ch av) (own_ch8 av) (own_ch bv) (own_ch8 bv) p1 gC X0 hx hZ hw hby hml hown Bd.returns Bd.notSynchronized e0 N0 (by first | omega | exact own_ne (by omega) | exact own_le (by omega) | exact own_lt (by omega)) O SC hgC (own_3 _) (own_3 _) (own_chr _) (own_chr _) (own_chr _) (own_chr _) hh0 hCH
  · refine go_of (B := (s₁.setTop (mkF m 75 #[.val (.int p1), .val (.int p2), .val (.int av), .val (.int bv), .val (.int md), .val (.int ((md &&& (3 : Int32)) % (3 : Int32))), .val (.int ((md &&& (3 : Int32)) % (3 : Int32))), .val (.int (own_ch av)), .val (.int (own_ch8 av)), .val (.int (own_ch av)), .val (.int (own_ch8 bv)), .unset, .unset, .unset, .unset, .unset, .unset, .unset, .unset] [(.int (own_ch8 av))]))) (fun _ kk => XS.ifNo X0.here hx rfl (hb hby at_62) rfl ((if0 _ _).trans (feq hcc69).1) (XS.iload X0.here hx rfl (hb hby at_65) rfl (XS.istore X0.here hx rfl (hb hby at_67) rfl rfl (XS.iload X0.here hx rfl (hb hby at_69) rfl (XS.istore X0.here hx rfl (hb hby at_71) rfl rfl (XS.iload X0.here hx rfl (hb hby at_73) rfl kk)))))) ?_
    refine go_of (B := (s₁.setTop (mkF m 83 #[.val (.int p1), .val (.int p2), .val (.int av), .val (.int bv), .val (.int md), .val (.int ((md &&& (3 : Int32)) % (3 : Int32))), .val (.int ((md &&& (3 : Int32)) % (3 : Int32))), .val (.int (own_ch av)), .val (.int (own_ch8 av)), .val (.int (own_ch av)), .val (.int (own_ch8 av)), .unset, .unset, .unset, .unset, .unset, .unset, .unset, .unset] [(.int (((md.toUInt32 >>> ((5 : Int32) &&& 31).toUInt32).toInt32) &&& (1 : Int32)))]))) (fun _ kk => XS.istore X0.here hx rfl (hb hby at_75) rfl rfl (XS.iload X0.here hx rfl (hb hby at_77) rfl (XS.iconst X0.here hx rfl (hb hby at_79) (XS.iushr X0.here hx rfl (hb hby at_80) rfl (XS.iconst X0.here hx rfl (hb hby at_81) (XS.iand X0.here hx rfl (hb hby at_82) rfl kk)))))) ?_
    by_cases hcc71 : (((md.toUInt32 >>> ((5 : Int32) &&& 31).toUInt32).toInt32) &&& (1 : Int32)) = (0 : Int32)
    · refine go_of (B := (s₁.setTop (mkF m 93 #[.val (.int p1), .val (.int p2), .val (.int av), .val (.int bv), .val (.int md), .val (.int ((md &&& (3 : Int32)) % (3 : Int32))), .val (.int ((md &&& (3 : Int32)) % (3 : Int32))), .val (.int (own_ch av)), .val (.int (own_ch8 av)), .val (.int (own_ch av)), .val (.int (own_ch8 av)), .val (.int p2), .unset, .unset, .unset, .unset, .unset, .unset, .unset] []))) (fun _ kk => XS.ifYes X0.here hx rfl (pc0 := 83) (pc' := 90) rfl (hb hby at_83) rfl ((if0 _ _).trans (teq hcc71).1) (by decide) (by decide) (XS.iloadN X0.here hx rfl (hb hby at_90) rfl (XS.istore X0.here hx rfl (hb hby at_91) rfl rfl kk))) ?_
      exact lw93 p1 p2 av bv md ((md &&& (3 : Int32)) % (3 : Int32)) ((md &&& (3 : Int32)) % (3 : Int32)) (own_ch av) (own_ch8 av) (own_ch av) (own_ch8 av) p2 gC X0 hx hZ hw hby hml hown Bd.returns Bd.notSynchronized e0 N0 (by first | omega | exact own_ne (by omega) | exact own_le (by omega) | exact own_lt (by omega)) O SC hgC (own_3 _) (own_3 _) (own_chr _) (own_chr _) (own_chr _) (own_chr _) hh0 hCH
    · refine go_of (B := (s₁.setTop (mkF m 93 #[.val (.int p1), .val (.int p2), .val (.int av), .val (.int bv), .val (.int md), .val (.int ((md &&& (3 : Int32)) % (3 : Int32))), .val (.int ((md &&& (3 : Int32)) % (3 : Int32))), .val (.int (own_ch av)), .val (.int (own_ch8 av)), .val (.int (own_ch av)), .val (.int (own_ch8 av)), .val (.int p1), .unset, .unset, .unset, .unset, .unset, .unset, .unset] []))) (fun _ kk => XS.ifNo X0.here hx rfl (hb hby at_83) rfl ((if0 _ _).trans (feq hcc71).1) (XS.iloadN X0.here hx rfl (hb hby at_86) rfl (XS.goto X0.here hx rfl (pc0 := 87) (pc' := 91) rfl (hb hby at_87) (by decide) (by decide) (XS.istore X0.here hx rfl (hb hby at_91) rfl rfl kk)))) ?_
      exact lw93 p1 p2 av bv md ((md &&& (3 : Int32)) % (3 : Int32)) ((md &&& (3 : Int32)) % (3 : Int32)) (own_ch av) (own_ch8 av) (own_ch av) (own_ch8 av) p1 gC X0 hx hZ hw hby hml hown Bd.returns Bd.notSynchronized e0 N0 (by first | omega | exact own_ne (by omega) | exact own_le (by omega) | exact own_lt (by omega)) O SC hgC (own_3 _) (own_3 _) (own_chr _) (own_chr _) (own_chr _) (own_chr _) hh0 hCH
theorem own_ne0 {t : Term} {g : Int32} {args : Array Value} {s : State} (ev : t.eval args s none [] s = some (.int g)) (h : (Jvm.Cond.not (.eq t (.int 0))).value args s none s [] = some true) : ¬ g = (0 : Int32) := by
  have h1 := not_v h
  intro q; subst q
  simp [Cond.value, ev, Term.int_eval] at h1
theorem comes_1 {Post : Tables → Env → Array Value → State → Outcome → State → Prop} (hpost : ∀ tb e args s v u, (limb_1_1.after args s (.returned v) u = true ∧ limb_1_2.after args s (.returned v) u = true ∧ True) → ReturnedEndW s (.returned v) u (Jvm.fieldLocs frame_1_writes args s ++ Jvm.arrayLocs frame_1_arrays args s ++ Jvm.staticLocs frame_1_statics s) 40 1152 → Post tb e args s (.returned v) u) :
    ArmFor flags0 classFile x code maxLocals ret World_1 tables_1 room_1 Calls_1 rest_1 Pre_1 Post := by
  intro l hfl _ _ p e ha hc hk s m args below hf hA hF happ hP
  obtain ⟨hcalls, hrest, hpre⟩ := hP
  obtain ⟨-, -, -, hnamed, -, -, -, hat⟩ := (Spec.applies_iff hf).mp happ
  obtain ⟨hg, hn⟩ := and_e (Cond.before_iff.mp (show (Jvm.Cond.and given_1 narrow_1).before args s = true from hpre))
  obtain ⟨g1, g2⟩ := and_e hg
  obtain ⟨g3, g4⟩ := and_e g2
  obtain ⟨g5, g6⟩ := and_e g4
  obtain ⟨g7, g8⟩ := and_e g6
  obtain ⟨g9, g10⟩ := and_e g8
  obtain ⟨w0, w1, w2, w3, w4, rfl⟩ : ∃ w0 w1 w2 w3 w4 : Value, args = #[w0, w1, w2, w3, w4] := by
    have hs : args.size = 5 := by simpa [Cond.value, given_1] using g1
    obtain ⟨L⟩ := args
    match L, hs with
    | [w0, w1, w2, w3, w4], _ => exact ⟨w0, w1, w2, w3, w4, rfl⟩
  have hw := fun d (hd : d ∈ tables_1) => atoms_spec (ws := Jvm.Cond.code x code maxLocals ret :: tables_1) hat d (List.mem_cons_of_mem _ hd)
  have wd := @own_wd _ _ hw
  have hfit : Fit s := fun {y c} hc i hi => by
    obtain ⟨ha, rfl⟩ := Array.getElem?_eq_some_iff.mp hc
    have q := List.all_eq_true.mp ((Array.all_eq_true_iff_forall_mem.mp hF) _ (Array.getElem_mem ha)) i (List.mem_range.mpr hi)
    simpa [Array.getElem?_eq_getElem hi] using q
  obtain ⟨hsets, hown0⟩ := atoms_of _ (rest_1_c_eq ▸ (show rest_1_c.before _ s = true from hrest))
  have hr0 := Cond.before_iff.mp hown0
  obtain ⟨i0, ei0⟩ := is_v g3
  obtain rfl : w0 = (.int i0) := Option.some.inj ei0
  obtain ⟨i1, ei1⟩ := is_v g5
  obtain rfl : w1 = (.int i1) := Option.some.inj ei1
  obtain ⟨i2, ei2⟩ := is_v g7
  obtain rfl : w2 = (.int i2) := Option.some.inj ei2
  obtain ⟨i3, ei3⟩ := is_v g9
  obtain rfl : w3 = (.int i3) := Option.some.inj ei3
  obtain ⟨i4, ei4⟩ := is_v g10
  obtain rfl : w4 = (.int i4) := Option.some.inj ei4
  obtain ⟨gC, evC⟩ := is_v (Cond.before_iff.mp (hsets _ (List.mem_of_getElem? (i := 1) rfl)))
  have SC := Sta.start evC (Or.inl (hsets _ (List.mem_of_getElem? (i := 0) rfl)))
  have hgC : ¬ gC = (0 : Int32) := own_ne0 evC (Cond.before_iff.mp (hsets _ (List.mem_of_getElem? (i := 2) rfl)))
  have hHeld : ∀ p ∈ own_EL, Jvm.Lit.constHeld s p.1 p.2 := by
    intro p hp
    simp only [own_EL, List.mem_cons, List.not_mem_nil, or_false] at hp
    rcases hp with rfl
    · exact hcalls.1 _ (List.mem_of_getElem? (i := 0) rfl)
  have hCH := CHv.start (own_EW hw) hHeld (hsets _ (List.mem_of_getElem? (i := 2) rfl)) (wd 19 rfl) (wd 5 rfl)
  obtain ⟨n, o, h1, h2, h3, _, L, rfl, ⟨rfl, N⟩, -, hq⟩ := rm0 l s _ hw tables_1 i0 i1 i2 i3 i4 gC s.heap s.heap.size (Nat.le_refl _) (Old.start s) SC hgC p e ha hc hk s m _ below hf ((Spec.applies_iff_loose hf).mp happ).1 ⟨rfl, State.Warmed39.refl s, rfl, hCH⟩ trivial
  exact ⟨n, _, h1, h2, h3, hpost _ _ _ _ _ _ ⟨Cond.after_iff.mpr rfl, Cond.after_iff.mpr (eq_i res_at (Term.int_eval (1)) rfl), trivial⟩ ⟨hq.1, hq.2.1, hq.2.2.1, (hq.2.2.2.sift fun y hy => Or.inr (N y hy)).mono (by decide) (by decide)⟩⟩
theorem main_1_1 : Claimed_1_1 := comes_1 fun _ _ _ _ _ _ h hF => ⟨h.1, hF⟩
theorem main_1_2 : Claimed_1_2 := comes_1 fun _ _ _ _ _ _ h hF => ⟨h.2.1, hF⟩
end Jvm.Pilot.@@N@@
namespace Jvm.Pilot.@@N@@
open Jvm Jvm.ClassFile Sem Op Lib Jvm.Free Jvm.Stand Jvm.Pilot.@@N@@.Jvm.D
/-! MADE BY PROGRAM (witnessworld.py) out of the Statement's table words and the real class files: 21 classes; the members and pool entries that the words name. The judged class is class 1, her method 2. -/
namespace start1
open Jvm.ClassFile
def u (s : String) : CpInfo := .utf8 (stringToUtf16 s)
/-- a pool by its gaps: so many unusable entries, then the entry; so many at the end -/
def gap : Nat → List CpInfo → List CpInfo
  | 0, r => r
  | n + 1, r => .unusable :: gap n r
def poolList (es : List (Nat × CpInfo)) (last : Nat) : List CpInfo := es.foldr (fun e r => gap e.1 (e.2 :: r)) (gap last [])
def pool (es : List (Nat × CpInfo)) (last : Nat) : Array CpInfo := ⟨poolList es last⟩
def fileOf (pool : Array CpInfo) (this : Nat) (attrs : Array Attribute := #[]) (ms : Array MethodInfo := #[]) (fl : Nat := 33) (sup : Nat := 0) (ifs : Array Nat := #[]) (fds : Array FieldInfo := #[]) : ClassFile where
  minorVersion := 0
  majorVersion := 65
  constantPool := pool
  accessFlags := fl
  thisClass := this
  superClass := sup
  interfaces := ifs
  fields := fds
  methods := ms
  attributes := attrs
def plain (name : String) (sup : Option ClassId) : Class where
  name := name
  kind := .ordinary
  loader := none
  accessFlags := 33
  super := sup
  interfaces := #[]
  cf := none
  fields := #[]
  methods := #[]
  instanceTypes := #[]
  staticTypes := #[]
  resolved := #[]
  callSites := []
  init := .initialized
  statics := none
  mirror := none

def pool0 : Array CpInfo := pool [(5, u "<init>"), (0, u "()V"), (1, .class_ 10), (1, u "java/lang/Object")] 113

def k0c0 : Code := { maxStack := 0, maxLocals := 1, code := object_method_1_code, exceptionTable := #[], attributes := #[] }
def k0m0 : Method := { name := "<init>", desc := "()V", sig := { parameters := [], returnType := none }, accessFlags := 1, code := some k0c0 }
/-- java/lang/Object -/
def k0 : Class := { plain "java/lang/Object" none with
  accessFlags := 33
  interfaces := #[]
  cf := some (fileOf pool0 8 #[] #[{ accessFlags := 1, nameIndex := 5, descriptorIndex := 6, attributes := #[] }] 33 0 #[] #[])
  fields := #[]
  methods := #[k0m0]
  instanceTypes := #[]
  staticTypes := #[]
  resolved := Array.replicate 124 none
  statics := none }

def pool1 : Array CpInfo := pool [(2, .class_ 4), (1, u "java/lang/Object"), (0, u "<init>"), (0, u "()V"), (0, .class_ 8), (0, u "java/lang/String"), (0, .methodref 7 10), (0, .nameAndType 5 11), (0, u "([C)V"), (0, .methodref 7 13), (0, .nameAndType 14 15), (0, u "valueOf"), (0, u "(C)Ljava/lang/String;"), (0, .methodref 17 18), (0, .class_ 19), (0, .nameAndType 20 21), (0, u "com/example/grantline/grantline/PermissionKeyEqualsPinLaw"), (0, u "mk"), (0, u "(ICC)Ljava/lang/String;"), (0, .class_ 23), (0, u "com/example/grantline/grantline/Permission$Key"), (0, .methodref 22 25), (0, .nameAndType 5 26), (0, u "(ILjava/lang/String;)V"), (0, .methodref 22 28), (0, .nameAndType 29 30), (0, u "equals"), (0, u "(Ljava/lang/Object;)Z"), (3, u "law"), (0, u "(IIIII)Z")] 6

def k1m0 : Method := { name := "<init>", desc := "()V", sig := { parameters := [], returnType := none }, accessFlags := 1, code := none }
def k1c1 : Code := { maxStack := 6, maxLocals := 3, code := method_2_code, exceptionTable := #[], attributes := #[] }
def k1m1 : Method := { name := "mk", desc := "(ICC)Ljava/lang/String;", sig := { parameters := [.int, .char, .char], returnType := some (.object "java/lang/String") }, accessFlags := 10, code := some k1c1 }
def k1c2 : Code := { maxStack := 6, maxLocals := 19, code := code, exceptionTable := #[], attributes := #[] }
def k1m2 : Method := { name := "law", desc := "(IIIII)Z", sig := { parameters := [.int, .int, .int, .int, .int], returnType := some .boolean }, accessFlags := 9, code := some k1c2 }
/-- com/example/grantline/grantline/PermissionKeyEqualsPinLaw -/
def k1 : Class := { plain "com/example/grantline/grantline/PermissionKeyEqualsPinLaw" (some 0) with
  accessFlags := 49
  interfaces := #[]
  cf := some (fileOf pool1 17 #[] #[{ accessFlags := 1, nameIndex := 5, descriptorIndex := 6, attributes := #[] }, { accessFlags := 10, nameIndex := 20, descriptorIndex := 21, attributes := #[] }, { accessFlags := 9, nameIndex := 34, descriptorIndex := 35, attributes := #[] }] 49 2 #[] #[])
  fields := #[]
  methods := #[k1m0, k1m1, k1m2]
  instanceTypes := #[]
  staticTypes := #[]
  resolved := Array.replicate 42 none
  statics := none }

def pool2 : Array CpInfo := pool [(1, .class_ 2), (0, u "java/io/Serializable"), (0, .class_ 4), (0, u "java/lang/Object")] 2

/-- java/io/Serializable -/
def k2 : Class := { plain "java/io/Serializable" (some 0) with
  accessFlags := 1537
  interfaces := #[]
  cf := some (fileOf pool2 1 #[] #[] 1537 3 #[] #[])
  fields := #[]
  methods := #[]
  instanceTypes := #[]
  staticTypes := #[]
  resolved := Array.replicate 7 none
  statics := none }

def pool3 : Array CpInfo := pool [(1, .class_ 2), (0, u "java/lang/Comparable"), (0, .class_ 4), (0, u "java/lang/Object")] 7

/-- java/lang/Comparable -/
def k3 : Class := { plain "java/lang/Comparable" (some 0) with
  accessFlags := 1537
  interfaces := #[]
  cf := some (fileOf pool3 1 #[] #[] 1537 3 #[] #[])
  fields := #[]
  methods := #[]
  instanceTypes := #[]
  staticTypes := #[]
  resolved := Array.replicate 12 none
  statics := none }

def pool4 : Array CpInfo := pool [(2, .class_ 4), (1, u "java/lang/CharSequence"), (42, .class_ 48), (0, u "java/lang/CharSequence$1CodePointIterator"), (10, .class_ 60), (0, u "java/lang/CharSequence$1CharIterator"), (5, .class_ 67), (0, u "java/lang/Object")] 63

/-- java/lang/CharSequence -/
def k4 : Class := { plain "java/lang/CharSequence" (some 0) with
  accessFlags := 1537
  interfaces := #[]
  cf := some (fileOf pool4 2 #[.nestMembers #[47, 59]] #[] 1537 66 #[] #[])
  fields := #[]
  methods := #[]
  instanceTypes := #[]
  staticTypes := #[]
  resolved := Array.replicate 131 none
  statics := none }

def pool5 : Array CpInfo := pool [(1, .class_ 2), (0, u "java/lang/constant/Constable"), (0, .class_ 4), (0, u "java/lang/Object")] 6

/-- java/lang/constant/Constable -/
def k5 : Class := { plain "java/lang/constant/Constable" (some 0) with
  accessFlags := 1537
  interfaces := #[]
  cf := some (fileOf pool5 1 #[] #[] 1537 3 #[] #[])
  fields := #[]
  methods := #[]
  instanceTypes := #[]
  staticTypes := #[]
  resolved := Array.replicate 11 none
  statics := none }

def pool6 : Array CpInfo := pool [(1, .class_ 2), (0, u "java/lang/constant/ConstantDesc"), (0, .class_ 4), (0, u "java/lang/Object")] 32

/-- java/lang/constant/ConstantDesc -/
def k6 : Class := { plain "java/lang/constant/ConstantDesc" (some 0) with
  accessFlags := 1537
  interfaces := #[]
  cf := some (fileOf pool6 1 #[] #[] 1537 3 #[] #[])
  fields := #[]
  methods := #[]
  instanceTypes := #[]
  staticTypes := #[]
  resolved := Array.replicate 37 none
  statics := none }

def pool7 : Array CpInfo := pool [(1, .methodref 2 3), (0, .class_ 4), (0, .nameAndType 5 6), (0, u "java/lang/Object"), (0, u "<init>"), (0, u "()V"), (0, .string 8), (0, u ""), (0, .fieldref 10 11), (0, .class_ 12), (0, .nameAndType 13 14), (0, u "java/lang/String"), (0, u "value"), (0, u "[B"), (0, .fieldref 10 16), (0, .nameAndType 17 18), (0, u "coder"), (0, u "B"), (2, u "hash"), (0, u "I"), (2, u "hashIsZero"), (0, u "Z"), (0, .methodref 10 28), (0, .nameAndType 5 29), (0, u "([CIILjava/lang/Void;)V"), (8, .fieldref 10 39), (0, .nameAndType 40 26), (0, u "COMPACT_STRINGS"), (1, .class_ 44), (1, u "java/lang/StringUTF16"), (0, u "compress"), (1, .methodref 42 48), (0, .nameAndType 49 50), (0, u "coderFromArrayLen"), (0, u "([BI)B"), (2, u "toBytes"), (53, .class_ 109), (1, u "java/lang/StringLatin1"), (67, .methodref 42 178), (0, .nameAndType 45 179), (0, u "([CII)[B"), (29, .methodref 10 210), (0, .nameAndType 5 211), (0, u "([BB)V"), (157, u "(C)Z"), (171, .methodref 107 542), (0, .nameAndType 543 544), (0, u "equals"), (0, u "([B[B)Z"), (28, u "(Ljava/lang/Object;)Z"), (1, .class_ 576), (0, u "java/lang/CharSequence"), (22, u "CASE_INSENSITIVE_ORDER"), (0, u "Ljava/util/Comparator;"), (181, u "valueOf"), (0, u "(C)Ljava/lang/String;"), (226, u "([C)V"), (4, .methodref 107 1016), (0, .nameAndType 1017 369), (0, u "canEncode"), (0, .methodref 107 1019), (0, .nameAndType 53 1020), (0, u "(C)[B"), (80, u "serialPersistentFields"), (0, u "[Ljava/io/ObjectStreamField;"), (0, .class_ 1104), (0, u "java/lang/String$CaseInsensitiveComparator"), (1, .class_ 1107), (0, u "java/io/Serializable"), (0, .class_ 1109), (0, u "java/lang/Comparable"), (0, .class_ 1111), (0, u "java/lang/constant/Constable"), (0, .class_ 1113), (0, u "java/lang/constant/ConstantDesc"), (2, u "serialVersionUID"), (0, u "J"), (3, u "REPL"), (0, u "C"), (2, u "LATIN1"), (1, u "UTF16")] 323

def k7m0 : Method := { name := "<init>", desc := "()V", sig := { parameters := [], returnType := none }, accessFlags := 1, code := none }
def k7c1 : Code := { maxStack := 5, maxLocals := 2, code := jdk_42_method_3_code, exceptionTable := #[], attributes := #[] }
def k7m1 : Method := { name := "<init>", desc := "([C)V", sig := { parameters := [(.array .char)], returnType := none }, accessFlags := 1, code := some k7c1 }
def k7c2 : Code := { maxStack := 2, maxLocals := 3, code := jdk_42_method_66_code, exceptionTable := #[], attributes := #[] }
def k7m2 : Method := { name := "equals", desc := "(Ljava/lang/Object;)Z", sig := { parameters := [(.object "java/lang/Object")], returnType := some .boolean }, accessFlags := 1, code := some k7c2 }
def k7c3 : Code := { maxStack := 4, maxLocals := 1, code := jdk_42_method_139_code, exceptionTable := #[], attributes := #[] }
def k7m3 : Method := { name := "valueOf", desc := "(C)Ljava/lang/String;", sig := { parameters := [.char], returnType := some (.object "java/lang/String") }, accessFlags := 9, code := some k7c3 }
def k7c4 : Code := { maxStack := 4, maxLocals := 6, code := jdk_42_method_149_code, exceptionTable := #[], attributes := #[] }
def k7m4 : Method := { name := "<init>", desc := "([CIILjava/lang/Void;)V", sig := { parameters := [(.array .char), .int, .int, (.object "java/lang/Void")], returnType := none }, accessFlags := 2, code := some k7c4 }
def k7c5 : Code := { maxStack := 2, maxLocals := 3, code := jdk_42_method_151_code, exceptionTable := #[], attributes := #[] }
def k7m5 : Method := { name := "<init>", desc := "([BB)V", sig := { parameters := [(.array .byte), .byte], returnType := none }, accessFlags := 0, code := some k7c5 }
/-- java/lang/String -/
def k7 : Class := { plain "java/lang/String" (some 0) with
  accessFlags := 49
  interfaces := #[2, 3, 4, 5, 6]
  cf := some (fileOf pool7 10 #[.nestMembers #[1103]] #[{ accessFlags := 1, nameIndex := 5, descriptorIndex := 6, attributes := #[] }, { accessFlags := 1, nameIndex := 5, descriptorIndex := 1010, attributes := #[] }, { accessFlags := 1, nameIndex := 543, descriptorIndex := 573, attributes := #[] }, { accessFlags := 9, nameIndex := 782, descriptorIndex := 783, attributes := #[] }, { accessFlags := 2, nameIndex := 5, descriptorIndex := 29, attributes := #[] }, { accessFlags := 0, nameIndex := 5, descriptorIndex := 211, attributes := #[] }] 49 2 #[1106, 1108, 575, 1110, 1112] #[{ accessFlags := 18, nameIndex := 13, descriptorIndex := 14, attributes := #[] }, { accessFlags := 18, nameIndex := 17, descriptorIndex := 18, attributes := #[] }, { accessFlags := 2, nameIndex := 21, descriptorIndex := 22, attributes := #[] }, { accessFlags := 2, nameIndex := 25, descriptorIndex := 26, attributes := #[] }, { accessFlags := 26, nameIndex := 1116, descriptorIndex := 1117, attributes := #[] }, { accessFlags := 24, nameIndex := 40, descriptorIndex := 26, attributes := #[] }, { accessFlags := 26, nameIndex := 1101, descriptorIndex := 1102, attributes := #[] }, { accessFlags := 26, nameIndex := 1121, descriptorIndex := 1122, attributes := #[] }, { accessFlags := 25, nameIndex := 599, descriptorIndex := 600, attributes := #[] }, { accessFlags := 24, nameIndex := 1125, descriptorIndex := 18, attributes := #[] }, { accessFlags := 24, nameIndex := 1127, descriptorIndex := 18, attributes := #[] }])
  fields := #[{ name := "value", type := (.array .byte), accessFlags := 18, slot := 0, constantValue := 0 }, { name := "coder", type := .byte, accessFlags := 18, slot := 1, constantValue := 0 }, { name := "hash", type := .int, accessFlags := 2, slot := 2, constantValue := 0 }, { name := "hashIsZero", type := .boolean, accessFlags := 2, slot := 3, constantValue := 0 }, { name := "serialVersionUID", type := .long, accessFlags := 26, slot := 0, constantValue := 0 }, { name := "COMPACT_STRINGS", type := .boolean, accessFlags := 24, slot := 1, constantValue := 0 }, { name := "serialPersistentFields", type := (.array (.object "java/io/ObjectStreamField")), accessFlags := 26, slot := 2, constantValue := 0 }, { name := "REPL", type := .char, accessFlags := 26, slot := 3, constantValue := 0 }, { name := "CASE_INSENSITIVE_ORDER", type := (.object "java/util/Comparator"), accessFlags := 25, slot := 4, constantValue := 0 }, { name := "LATIN1", type := .byte, accessFlags := 24, slot := 5, constantValue := 0 }, { name := "UTF16", type := .byte, accessFlags := 24, slot := 6, constantValue := 0 }]
  methods := #[k7m0, k7m1, k7m2, k7m3, k7m4, k7m5]
  instanceTypes := #[(.array .byte), .byte, .int, .boolean]
  staticTypes := #[.long, .boolean, (.array (.object "java/io/ObjectStreamField")), .char, (.object "java/util/Comparator"), .byte, .byte]
  resolved := Array.replicate 1451 none
  statics := some 0 }

def pool8 : Array CpInfo := pool [(1, .methodref 2 3), (0, .class_ 4), (0, .nameAndType 5 6), (0, u "java/lang/Object"), (0, u "<init>"), (0, u "()V"), (0, .class_ 8), (0, u "java/lang/Record")] 13

def k8c0 : Code := { maxStack := 1, maxLocals := 1, code := jdk_30_method_1_code, exceptionTable := #[], attributes := #[] }
def k8m0 : Method := { name := "<init>", desc := "()V", sig := { parameters := [], returnType := none }, accessFlags := 4, code := some k8c0 }
/-- java/lang/Record -/
def k8 : Class := { plain "java/lang/Record" (some 0) with
  accessFlags := 1057
  interfaces := #[]
  cf := some (fileOf pool8 7 #[] #[{ accessFlags := 4, nameIndex := 5, descriptorIndex := 6, attributes := #[] }] 1057 2 #[] #[])
  fields := #[]
  methods := #[k8m0]
  instanceTypes := #[]
  staticTypes := #[]
  resolved := Array.replicate 22 none
  statics := none }

def pool9 : Array CpInfo := pool [(1, .methodref 2 3), (0, .class_ 4), (0, .nameAndType 5 6), (0, u "java/lang/Record"), (0, u "<init>"), (0, u "()V"), (0, .fieldref 8 9), (0, .class_ 10), (0, .nameAndType 11 12), (0, u "com/example/grantline/grantline/Permission$Key"), (0, u "part"), (0, u "I"), (0, .fieldref 8 14), (0, .nameAndType 15 16), (0, u "text"), (0, u "Ljava/lang/String;"), (0, .methodref 18 19), (0, .class_ 20), (0, .nameAndType 21 22), (0, u "java/lang/String"), (0, u "equals"), (0, u "(Ljava/lang/Object;)Z"), (8, u "(ILjava/lang/String;)V"), (8, .class_ 41), (0, u "com/example/grantline/grantline/Permission")] 20

def k9c0 : Code := { maxStack := 2, maxLocals := 3, code := prog_23_method_1_code, exceptionTable := #[], attributes := #[] }
def k9m0 : Method := { name := "<init>", desc := "(ILjava/lang/String;)V", sig := { parameters := [.int, (.object "java/lang/String")], returnType := none }, accessFlags := 0, code := some k9c0 }
def k9c1 : Code := { maxStack := 2, maxLocals := 3, code := prog_23_method_2_code, exceptionTable := #[], attributes := #[] }
def k9m1 : Method := { name := "equals", desc := "(Ljava/lang/Object;)Z", sig := { parameters := [(.object "java/lang/Object")], returnType := some .boolean }, accessFlags := 1, code := some k9c1 }
/-- com/example/grantline/grantline/Permission$Key -/
def k9 : Class := { plain "com/example/grantline/grantline/Permission$Key" (some 8) with
  accessFlags := 48
  interfaces := #[]
  cf := some (fileOf pool9 8 #[.nestHost 40] #[{ accessFlags := 0, nameIndex := 5, descriptorIndex := 31, attributes := #[] }, { accessFlags := 1, nameIndex := 21, descriptorIndex := 22, attributes := #[] }] 48 2 #[] #[{ accessFlags := 18, nameIndex := 11, descriptorIndex := 12, attributes := #[] }, { accessFlags := 18, nameIndex := 15, descriptorIndex := 16, attributes := #[] }])
  fields := #[{ name := "part", type := .int, accessFlags := 18, slot := 0, constantValue := 0 }, { name := "text", type := (.object "java/lang/String"), accessFlags := 18, slot := 1, constantValue := 0 }]
  methods := #[k9m0, k9m1]
  instanceTypes := #[.int, (.object "java/lang/String")]
  staticTypes := #[]
  resolved := Array.replicate 62 none
  statics := none }

def pool10 : Array CpInfo := pool [(4, .class_ 6), (1, u "java/lang/Object"), (0, u "<init>"), (0, u "()V"), (5, .class_ 16), (1, u "java/lang/StringLatin1"), (73, u "canEncode"), (14, u "(C)Z"), (15, u "$assertionsDisabled"), (0, u "Z"), (98, .class_ 223), (1, u "java/lang/StringLatin1$LinesSpliterator"), (57, u "equals"), (0, u "([B[B)Z"), (97, u "toBytes"), (1, u "(C)[B"), (7, .class_ 391), (0, u "java/lang/StringLatin1$CharsSpliterator")] 3

def k10m0 : Method := { name := "<init>", desc := "()V", sig := { parameters := [], returnType := none }, accessFlags := 0, code := none }
def k10c1 : Code := { maxStack := 2, maxLocals := 1, code := jdk_43_method_3_code, exceptionTable := #[], attributes := #[] }
def k10m1 : Method := { name := "canEncode", desc := "(C)Z", sig := { parameters := [.char], returnType := some .boolean }, accessFlags := 9, code := some k10c1 }
def k10c2 : Code := { maxStack := 3, maxLocals := 3, code := jdk_43_method_13_code, exceptionTable := #[], attributes := #[] }
def k10m2 : Method := { name := "equals", desc := "([B[B)Z", sig := { parameters := [(.array .byte), (.array .byte)], returnType := some .boolean }, accessFlags := 9, code := some k10c2 }
def k10c3 : Code := { maxStack := 4, maxLocals := 1, code := jdk_43_method_46_code, exceptionTable := #[], attributes := #[] }
def k10m3 : Method := { name := "toBytes", desc := "(C)[B", sig := { parameters := [.char], returnType := some (.array .byte) }, accessFlags := 9, code := some k10c3 }
/-- java/lang/StringLatin1 -/
def k10 : Class := { plain "java/lang/StringLatin1" (some 0) with
  accessFlags := 48
  interfaces := #[]
  cf := some (fileOf pool10 14 #[.nestMembers #[390, 221]] #[{ accessFlags := 0, nameIndex := 7, descriptorIndex := 8, attributes := #[] }, { accessFlags := 9, nameIndex := 90, descriptorIndex := 105, attributes := #[] }, { accessFlags := 9, nameIndex := 281, descriptorIndex := 282, attributes := #[] }, { accessFlags := 9, nameIndex := 380, descriptorIndex := 382, attributes := #[] }] 48 4 #[] #[{ accessFlags := 4120, nameIndex := 121, descriptorIndex := 122, attributes := #[] }])
  fields := #[{ name := "$assertionsDisabled", type := .boolean, accessFlags := 4120, slot := 0, constantValue := 0 }]
  methods := #[k10m0, k10m1, k10m2, k10m3]
  instanceTypes := #[]
  staticTypes := #[.boolean]
  resolved := Array.replicate 395 none
  statics := none }

def pool11 : Array CpInfo := pool [(6, .class_ 8), (1, u "java/lang/Object"), (0, u "<init>"), (0, u "()V"), (1, .class_ 14), (1, u "java/lang/StringUTF16"), (31, u "$assertionsDisabled"), (0, u "Z"), (13, u "HI_BYTE_SHIFT"), (0, u "I"), (2, u "LO_BYTE_SHIFT"), (49, .methodref 12 116), (0, .nameAndType 117 118), (0, u "compress"), (0, u "([CI[BII)I"), (3, u "([CII)[B"), (138, u "coderFromArrayLen"), (0, u "([BI)B"), (106, .class_ 371), (1, u "java/lang/StringUTF16$LinesSpliterator"), (58, u "MAX_LENGTH"), (196, .class_ 628), (0, u "java/lang/StringUTF16$CodePointsSpliterator"), (0, .class_ 630), (0, u "java/lang/StringUTF16$CharsSpliterator")] 4

def k11m0 : Method := { name := "<init>", desc := "()V", sig := { parameters := [], returnType := none }, accessFlags := 0, code := none }
def k11c1 : Code := { maxStack := 2, maxLocals := 2, code := jdk_52_method_15_code, exceptionTable := #[], attributes := #[] }
def k11m1 : Method := { name := "coderFromArrayLen", desc := "([BI)B", sig := { parameters := [(.array .byte), .int], returnType := some .byte }, accessFlags := 8, code := some k11c1 }
def k11c2 : Code := { maxStack := 5, maxLocals := 6, code := jdk_52_method_16_code, exceptionTable := #[], attributes := #[] }
def k11m2 : Method := { name := "compress", desc := "([CII)[B", sig := { parameters := [(.array .char), .int, .int], returnType := some (.array .byte) }, accessFlags := 9, code := some k11c2 }
def k11c3 : Code := { maxStack := 3, maxLocals := 7, code := jdk_52_method_21_code, exceptionTable := #[], attributes := #[] }
def k11m3 : Method := { name := "compress", desc := "([CI[BII)I", sig := { parameters := [(.array .char), .int, (.array .byte), .int, .int], returnType := some .int }, accessFlags := 9, code := some k11c3 }
/-- java/lang/StringUTF16 -/
def k11 : Class := { plain "java/lang/StringUTF16" (some 0) with
  accessFlags := 48
  interfaces := #[]
  cf := some (fileOf pool11 12 #[.nestMembers #[627, 629, 369]] #[{ accessFlags := 0, nameIndex := 9, descriptorIndex := 10, attributes := #[] }, { accessFlags := 8, nameIndex := 261, descriptorIndex := 262, attributes := #[] }, { accessFlags := 9, nameIndex := 117, descriptorIndex := 122, attributes := #[] }, { accessFlags := 9, nameIndex := 117, descriptorIndex := 118, attributes := #[] }] 48 6 #[] #[{ accessFlags := 26, nameIndex := 61, descriptorIndex := 62, attributes := #[] }, { accessFlags := 26, nameIndex := 65, descriptorIndex := 62, attributes := #[] }, { accessFlags := 24, nameIndex := 430, descriptorIndex := 62, attributes := #[] }, { accessFlags := 4120, nameIndex := 46, descriptorIndex := 47, attributes := #[] }])
  fields := #[{ name := "HI_BYTE_SHIFT", type := .int, accessFlags := 26, slot := 0, constantValue := 0 }, { name := "LO_BYTE_SHIFT", type := .int, accessFlags := 26, slot := 1, constantValue := 0 }, { name := "MAX_LENGTH", type := .int, accessFlags := 24, slot := 2, constantValue := 0 }, { name := "$assertionsDisabled", type := .boolean, accessFlags := 4120, slot := 3, constantValue := 0 }]
  methods := #[k11m0, k11m1, k11m2, k11m3]
  instanceTypes := #[]
  staticTypes := #[.int, .int, .int, .boolean]
  resolved := Array.replicate 635 none
  statics := none }

def pool12 : Array CpInfo := pool [(2, .class_ 4), (1, u "java/lang/Object"), (0, u "<init>"), (0, u "()V"), (17, .class_ 26), (1, u "jdk/internal/util/Preconditions"), (28, .class_ 56), (0, u "jdk/internal/util/Preconditions$4"), (57, .class_ 115), (0, u "jdk/internal/util/Preconditions$1"), (7, u "SIOOBE_FORMATTER"), (0, u "Ljava/util/function/BiFunction;"), (0, .class_ 126), (0, u "jdk/internal/util/Preconditions$2"), (3, u "AIOOBE_FORMATTER"), (0, .class_ 132), (0, u "jdk/internal/util/Preconditions$3"), (3, u "IOOBE_FORMATTER")] 57

def k12m0 : Method := { name := "<init>", desc := "()V", sig := { parameters := [], returnType := none }, accessFlags := 1, code := none }
/-- jdk/internal/util/Preconditions -/
def k12 : Class := { plain "jdk/internal/util/Preconditions" (some 0) with
  accessFlags := 33
  interfaces := #[]
  cf := some (fileOf pool12 24 #[.nestMembers #[55, 131, 125, 114]] #[{ accessFlags := 1, nameIndex := 5, descriptorIndex := 6, attributes := #[] }] 33 2 #[] #[{ accessFlags := 25, nameIndex := 123, descriptorIndex := 124, attributes := #[] }, { accessFlags := 25, nameIndex := 130, descriptorIndex := 124, attributes := #[] }, { accessFlags := 25, nameIndex := 136, descriptorIndex := 124, attributes := #[] }])
  fields := #[{ name := "SIOOBE_FORMATTER", type := (.object "java/util/function/BiFunction"), accessFlags := 25, slot := 0, constantValue := 0 }, { name := "AIOOBE_FORMATTER", type := (.object "java/util/function/BiFunction"), accessFlags := 25, slot := 1, constantValue := 0 }, { name := "IOOBE_FORMATTER", type := (.object "java/util/function/BiFunction"), accessFlags := 25, slot := 2, constantValue := 0 }]
  methods := #[k12m0]
  instanceTypes := #[]
  staticTypes := #[(.object "java/util/function/BiFunction"), (.object "java/util/function/BiFunction"), (.object "java/util/function/BiFunction")]
  resolved := Array.replicate 194 none
  statics := some 1 }

def pool13 : Array CpInfo := pool [(9, u "<init>"), (6, .class_ 18), (1, u "java/lang/Object"), (0, u "()V"), (1, .class_ 23), (1, u "jdk/internal/util/ArraysSupport"), (0, u "LOG2_ARRAY_LONG_INDEX_SCALE"), (0, u "I"), (2, u "U"), (0, u "Ljdk/internal/misc/Unsafe;"), (8, u "BIG_ENDIAN"), (0, u "Z"), (8, u "LOG2_BYTE_BIT_SIZE"), (4, u "LOG2_ARRAY_INT_INDEX_SCALE"), (54, u "JLA"), (0, u "Ljdk/internal/access/JavaLangAccess;"), (11, u "LOG2_ARRAY_BOOLEAN_INDEX_SCALE"), (9, u "LOG2_ARRAY_BYTE_INDEX_SCALE"), (5, u "LOG2_ARRAY_CHAR_INDEX_SCALE"), (5, u "LOG2_ARRAY_SHORT_INDEX_SCALE"), (18, u "LOG2_ARRAY_FLOAT_INDEX_SCALE"), (24, u "LOG2_ARRAY_DOUBLE_INDEX_SCALE"), (89, u "T_BOOLEAN"), (2, u "T_CHAR"), (1, u "T_FLOAT"), (1, u "T_DOUBLE"), (1, u "T_BYTE"), (1, u "T_SHORT"), (1, u "T_INT"), (1, u "T_LONG"), (1, u "SOFT_MAX_ARRAY_LENGTH")] 83

def k13m0 : Method := { name := "<init>", desc := "()V", sig := { parameters := [], returnType := none }, accessFlags := 2, code := none }
/-- jdk/internal/util/ArraysSupport -/
def k13 : Class := { plain "jdk/internal/util/ArraysSupport" (some 0) with
  accessFlags := 33
  interfaces := #[]
  cf := some (fileOf pool13 21 #[] #[{ accessFlags := 2, nameIndex := 9, descriptorIndex := 19, attributes := #[] }] 33 16 #[] #[{ accessFlags := 24, nameIndex := 28, descriptorIndex := 29, attributes := #[] }, { accessFlags := 26, nameIndex := 38, descriptorIndex := 39, attributes := #[] }, { accessFlags := 25, nameIndex := 121, descriptorIndex := 25, attributes := #[] }, { accessFlags := 25, nameIndex := 131, descriptorIndex := 25, attributes := #[] }, { accessFlags := 25, nameIndex := 137, descriptorIndex := 25, attributes := #[] }, { accessFlags := 25, nameIndex := 143, descriptorIndex := 25, attributes := #[] }, { accessFlags := 25, nameIndex := 53, descriptorIndex := 25, attributes := #[] }, { accessFlags := 25, nameIndex := 24, descriptorIndex := 25, attributes := #[] }, { accessFlags := 25, nameIndex := 162, descriptorIndex := 25, attributes := #[] }, { accessFlags := 25, nameIndex := 187, descriptorIndex := 25, attributes := #[] }, { accessFlags := 26, nameIndex := 48, descriptorIndex := 25, attributes := #[] }, { accessFlags := 25, nameIndex := 277, descriptorIndex := 25, attributes := #[] }, { accessFlags := 25, nameIndex := 280, descriptorIndex := 25, attributes := #[] }, { accessFlags := 25, nameIndex := 282, descriptorIndex := 25, attributes := #[] }, { accessFlags := 25, nameIndex := 284, descriptorIndex := 25, attributes := #[] }, { accessFlags := 25, nameIndex := 286, descriptorIndex := 25, attributes := #[] }, { accessFlags := 25, nameIndex := 288, descriptorIndex := 25, attributes := #[] }, { accessFlags := 25, nameIndex := 290, descriptorIndex := 25, attributes := #[] }, { accessFlags := 25, nameIndex := 292, descriptorIndex := 25, attributes := #[] }, { accessFlags := 26, nameIndex := 108, descriptorIndex := 109, attributes := #[] }, { accessFlags := 25, nameIndex := 294, descriptorIndex := 25, attributes := #[] }])
  fields := #[{ name := "U", type := (.object "jdk/internal/misc/Unsafe"), accessFlags := 24, slot := 0, constantValue := 0 }, { name := "BIG_ENDIAN", type := .boolean, accessFlags := 26, slot := 1, constantValue := 0 }, { name := "LOG2_ARRAY_BOOLEAN_INDEX_SCALE", type := .int, accessFlags := 25, slot := 2, constantValue := 0 }, { name := "LOG2_ARRAY_BYTE_INDEX_SCALE", type := .int, accessFlags := 25, slot := 3, constantValue := 0 }, { name := "LOG2_ARRAY_CHAR_INDEX_SCALE", type := .int, accessFlags := 25, slot := 4, constantValue := 0 }, { name := "LOG2_ARRAY_SHORT_INDEX_SCALE", type := .int, accessFlags := 25, slot := 5, constantValue := 0 }, { name := "LOG2_ARRAY_INT_INDEX_SCALE", type := .int, accessFlags := 25, slot := 6, constantValue := 0 }, { name := "LOG2_ARRAY_LONG_INDEX_SCALE", type := .int, accessFlags := 25, slot := 7, constantValue := 0 }, { name := "LOG2_ARRAY_FLOAT_INDEX_SCALE", type := .int, accessFlags := 25, slot := 8, constantValue := 0 }, { name := "LOG2_ARRAY_DOUBLE_INDEX_SCALE", type := .int, accessFlags := 25, slot := 9, constantValue := 0 }, { name := "LOG2_BYTE_BIT_SIZE", type := .int, accessFlags := 26, slot := 10, constantValue := 0 }, { name := "T_BOOLEAN", type := .int, accessFlags := 25, slot := 11, constantValue := 0 }, { name := "T_CHAR", type := .int, accessFlags := 25, slot := 12, constantValue := 0 }, { name := "T_FLOAT", type := .int, accessFlags := 25, slot := 13, constantValue := 0 }, { name := "T_DOUBLE", type := .int, accessFlags := 25, slot := 14, constantValue := 0 }, { name := "T_BYTE", type := .int, accessFlags := 25, slot := 15, constantValue := 0 }, { name := "T_SHORT", type := .int, accessFlags := 25, slot := 16, constantValue := 0 }, { name := "T_INT", type := .int, accessFlags := 25, slot := 17, constantValue := 0 }, { name := "T_LONG", type := .int, accessFlags := 25, slot := 18, constantValue := 0 }, { name := "JLA", type := (.object "jdk/internal/access/JavaLangAccess"), accessFlags := 26, slot := 19, constantValue := 0 }, { name := "SOFT_MAX_ARRAY_LENGTH", type := .int, accessFlags := 25, slot := 20, constantValue := 0 }]
  methods := #[k13m0]
  instanceTypes := #[]
  staticTypes := #[(.object "jdk/internal/misc/Unsafe"), .boolean, .int, .int, .int, .int, .int, .int, .int, .int, .int, .int, .int, .int, .int, .int, .int, .int, .int, (.object "jdk/internal/access/JavaLangAccess"), .int]
  resolved := Array.replicate 378 none
  statics := none }

def pool14 : Array CpInfo := pool [(1, u "java/lang/Cloneable"), (0, .class_ 1), (0, u "java/lang/Object"), (0, .class_ 3)] 3

/-- java/lang/Cloneable -/
def k14 : Class := { plain "java/lang/Cloneable" (some 0) with
  accessFlags := 1537
  interfaces := #[]
  cf := some (fileOf pool14 2 #[] #[] 1537 4 #[] #[])
  fields := #[]
  methods := #[]
  instanceTypes := #[]
  staticTypes := #[]
  resolved := Array.replicate 8 none
  statics := none }

/-- the primitive byte -/
def k15 : Class := { plain "byte" none with kind := .primitive 'B', accessFlags := 0x411 }
/-- [B -/
def k16 : Class := { plain "[B" (some 0) with kind := .array 15 .byte, interfaces := #[14, 2], accessFlags := 1041 }

/-- the primitive char -/
def k17 : Class := { plain "char" none with kind := .primitive 'C', accessFlags := 0x411 }
/-- [C -/
def k18 : Class := { plain "[C" (some 0) with kind := .array 17 .char, interfaces := #[14, 2], accessFlags := 1041 }

/-- the primitive int -/
def k19 : Class := { plain "int" none with kind := .primitive 'I', accessFlags := 0x411 }
/-- [I -/
def k20 : Class := { plain "[I" (some 0) with kind := .array 19 .int, interfaces := #[14, 2], accessFlags := 1041 }

def heap : Heap := #[{ cls := 7, slots := #[.long 0, .int 1, .null, .int 0, .null, .int 0, .int 0], vm := .statics 7 },
  { cls := 12, slots := #[.null, .null, .null], vm := .statics 12 }]
def classes : Array Class := #[k0, k1, k2, k3, k4, k5, k6, k7, k8, k9, k10, k11, k12, k13, k14, k15, k16, k17, k18, k19, k20]
def interned : List (Array UInt16 × Addr) := []
def slotsUsed : Nat := 10
def theMethod : MethodId := ⟨1, 2⟩
def args0 : Array Value := #[.int 5, .int 6, .int 7, .int 1, .int 2]
def aboutOver (below : List Frame) : State where
  vm := { classes := classes, interned := interned.toArray }
  heap := heap
  slotsUsed := slotsUsed
  threads := #[{ frames := .invoking theMethod args0 :: below }]
def below0 : List Frame := [.native { method := ⟨0, 0⟩, args := #[] }]
def about1 : State := aboutOver below0
def p0 : Program := .bare "" "" ""
def e0 : Env := launch0.env 0 0 0
theorem w_frames : about1.frames = Frame.invoking theMethod args0 :: below0 := rfl
set_option maxRecDepth 65536 in
theorem w_args : argsFit about1.vm theMethod args0 = true := by decide +kernel
set_option maxRecDepth 65536 in
theorem w_heap : heapFits about1 = true := by decide +kernel
set_option maxRecDepth 65536 in
theorem w_runnable : about1.curStatus? = some .runnable := by decide +kernel
set_option maxRecDepth 65536 in
theorem w_alone : about1.alone = true := by decide +kernel
set_option maxRecDepth 65536 in
theorem w_named : about1.methodNamed? x = some theMethod := by decide +kernel
set_option maxRecDepth 65536 in
theorem w_hears : about1.hears theMethod below0 = true := by decide +kernel
set_option maxRecDepth 65536 in
theorem w_ripe : about1.ripe theMethod args0 below0 = true := by decide +kernel
theorem w_running : about1.status = .running := rfl
set_option maxRecDepth 65536 in
theorem w_room : about1.hasRoom e0.platform room_1 = true :=
  launch0.hasRoom_least _ room_1 (by decide +kernel) (by decide +kernel) (by decide +kernel) (by decide +kernel) (by decide +kernel) (by decide +kernel)
theorem allAtoms_all (ts : List Jvm.Cond) (a : Array Jvm.Value) (st : Jvm.State) : (allAtoms ts).before a st = ts.all (fun c => c.before a st) := by
  induction ts with
  | nil => rfl
  | cons c t ih =>
    show (Jvm.Cond.and c (allAtoms t)).before a st = _
    rw [Jvm.Cond.before_and, ih, List.all_cons]
def words1 : List Jvm.Cond := Jvm.Cond.code x code maxLocals ret :: tables_1
/-- a 'code' word, met by the world's own term for the bytes: nothing is compared byte by byte -/
theorem code_word {y : MethodName} {bytes : ByteArray} {mx : Nat} {rt : Option FieldType} {a : Array Value} {s : State} {m : MethodId} {meth : Method} {c : Code} (h1 : s.methodNamed? y = some m) (h2 : s.vm.method? m = some meth) (h3 : meth.code = some c) (h4 : c.code = bytes)
    (h5 : (c.maxLocals == mx && c.exceptionTable.isEmpty && decide (c.maxStack ≤ mostOperands) && decide (meth.sig.returnType = rt) && !meth.locks && decide (parseMethodDescriptor y.desc = some meth.sig)) = true) : (Jvm.Cond.code y bytes mx rt).before a s = true := by
  simp only [Bool.and_eq_true, beq_iff_eq, Bool.not_eq_true', decide_eq_true_eq] at h5
  obtain ⟨⟨⟨⟨⟨g1, g2⟩, g3⟩, g4⟩, g5⟩, g6⟩ := h5
  simp [Cond.before, Cond.holds, Cond.value, h1, h2, h3, h4, g1, g2, g3, g4, g5, g6]
def isCode : Jvm.Cond → Bool
  | .code _ _ _ _ => true
  | _ => false
theorem all_split {L : List Jvm.Cond} {P : Jvm.Cond → Bool} (h1 : L.all (fun c => isCode c || P c) = true) (h2 : ∀ c ∈ L.filter isCode, P c = true) : L.all P = true := by
  refine List.all_eq_true.mpr fun c hc => ?_
  have h := List.all_eq_true.mp h1 c hc
  rcases Bool.eq_false_or_eq_true (isCode c) with hi | hi
  · exact h2 c (List.mem_filter.mpr ⟨hc, hi⟩)
  · simpa [hi] using h
set_option maxRecDepth 65536 in
theorem w_c0 : (Jvm.Cond.code x code maxLocals ret).before args0 about1 = true := code_word (m := ⟨1, 2⟩) (meth := k1m2) (c := k1c2) (by decide +kernel) rfl rfl rfl (by decide +kernel)
set_option maxRecDepth 65536 in
theorem w_c1 : (Jvm.Cond.code ({ cls := "com/example/grantline/grantline/PermissionKeyEqualsPinLaw", name := "mk", desc := "(ICC)Ljava/lang/String;" } : Jvm.MethodName) method_2_code (3 : Nat) (Option.some (Jvm.ClassFile.FieldType.object "java/lang/String"))).before args0 about1 = true := code_word (m := ⟨1, 1⟩) (meth := k1m1) (c := k1c1) (by decide +kernel) rfl rfl rfl (by decide +kernel)
set_option maxRecDepth 65536 in
theorem w_c2 : (Jvm.Cond.code ({ cls := "java/lang/String", name := "<init>", desc := "([C)V" } : Jvm.MethodName) jdk_42_method_3_code (2 : Nat) (Option.none : Option Jvm.ClassFile.FieldType)).before args0 about1 = true := code_word (m := ⟨7, 1⟩) (meth := k7m1) (c := k7c1) (by decide +kernel) rfl rfl rfl (by decide +kernel)
set_option maxRecDepth 65536 in
theorem w_c3 : (Jvm.Cond.code ({ cls := "java/lang/String", name := "<init>", desc := "([CIILjava/lang/Void;)V" } : Jvm.MethodName) jdk_42_method_149_code (6 : Nat) (Option.none : Option Jvm.ClassFile.FieldType)).before args0 about1 = true := code_word (m := ⟨7, 4⟩) (meth := k7m4) (c := k7c4) (by decide +kernel) rfl rfl rfl (by decide +kernel)
set_option maxRecDepth 65536 in
theorem w_c4 : (Jvm.Cond.code ({ cls := "java/lang/Object", name := "<init>", desc := "()V" } : Jvm.MethodName) object_method_1_code (1 : Nat) (Option.none : Option Jvm.ClassFile.FieldType)).before args0 about1 = true := code_word (m := ⟨0, 0⟩) (meth := k0m0) (c := k0c0) (by decide +kernel) rfl rfl rfl (by decide +kernel)
set_option maxRecDepth 65536 in
theorem w_c5 : (Jvm.Cond.code ({ cls := "com/example/grantline/grantline/Permission$Key", name := "<init>", desc := "(ILjava/lang/String;)V" } : Jvm.MethodName) prog_23_method_1_code (3 : Nat) (Option.none : Option Jvm.ClassFile.FieldType)).before args0 about1 = true := code_word (m := ⟨9, 0⟩) (meth := k9m0) (c := k9c0) (by decide +kernel) rfl rfl rfl (by decide +kernel)
set_option maxRecDepth 65536 in
theorem w_c6 : (Jvm.Cond.code ({ cls := "java/lang/Record", name := "<init>", desc := "()V" } : Jvm.MethodName) jdk_30_method_1_code (1 : Nat) (Option.none : Option Jvm.ClassFile.FieldType)).before args0 about1 = true := code_word (m := ⟨8, 0⟩) (meth := k8m0) (c := k8c0) (by decide +kernel) rfl rfl rfl (by decide +kernel)
set_option maxRecDepth 65536 in
theorem w_c7 : (Jvm.Cond.code ({ cls := "com/example/grantline/grantline/Permission$Key", name := "equals", desc := "(Ljava/lang/Object;)Z" } : Jvm.MethodName) prog_23_method_2_code (3 : Nat) (Option.some Jvm.ClassFile.FieldType.boolean)).before args0 about1 = true := code_word (m := ⟨9, 1⟩) (meth := k9m1) (c := k9c1) (by decide +kernel) rfl rfl rfl (by decide +kernel)
set_option maxRecDepth 65536 in
theorem w_c8 : (Jvm.Cond.code ({ cls := "java/lang/String", name := "valueOf", desc := "(C)Ljava/lang/String;" } : Jvm.MethodName) jdk_42_method_139_code (1 : Nat) (Option.some (Jvm.ClassFile.FieldType.object "java/lang/String"))).before args0 about1 = true := code_word (m := ⟨7, 3⟩) (meth := k7m3) (c := k7c3) (by decide +kernel) rfl rfl rfl (by decide +kernel)
set_option maxRecDepth 65536 in
theorem w_c9 : (Jvm.Cond.code ({ cls := "java/lang/StringLatin1", name := "canEncode", desc := "(C)Z" } : Jvm.MethodName) jdk_43_method_3_code (1 : Nat) (Option.some Jvm.ClassFile.FieldType.boolean)).before args0 about1 = true := code_word (m := ⟨10, 1⟩) (meth := k10m1) (c := k10c1) (by decide +kernel) rfl rfl rfl (by decide +kernel)
set_option maxRecDepth 65536 in
theorem w_c10 : (Jvm.Cond.code ({ cls := "java/lang/StringLatin1", name := "toBytes", desc := "(C)[B" } : Jvm.MethodName) jdk_43_method_46_code (1 : Nat) (Option.some (Jvm.ClassFile.FieldType.array Jvm.ClassFile.FieldType.byte))).before args0 about1 = true := code_word (m := ⟨10, 3⟩) (meth := k10m3) (c := k10c3) (by decide +kernel) rfl rfl rfl (by decide +kernel)
set_option maxRecDepth 65536 in
theorem w_c11 : (Jvm.Cond.code ({ cls := "java/lang/String", name := "<init>", desc := "([BB)V" } : Jvm.MethodName) jdk_42_method_151_code (3 : Nat) (Option.none : Option Jvm.ClassFile.FieldType)).before args0 about1 = true := code_word (m := ⟨7, 5⟩) (meth := k7m5) (c := k7c5) (by decide +kernel) rfl rfl rfl (by decide +kernel)
set_option maxRecDepth 65536 in
theorem w_c12 : (Jvm.Cond.code ({ cls := "java/lang/StringUTF16", name := "compress", desc := "([CII)[B" } : Jvm.MethodName) jdk_52_method_16_code (6 : Nat) (Option.some (Jvm.ClassFile.FieldType.array Jvm.ClassFile.FieldType.byte))).before args0 about1 = true := code_word (m := ⟨11, 2⟩) (meth := k11m2) (c := k11c2) (by decide +kernel) rfl rfl rfl (by decide +kernel)
set_option maxRecDepth 65536 in
theorem w_c13 : (Jvm.Cond.code ({ cls := "java/lang/StringUTF16", name := "compress", desc := "([CI[BII)I" } : Jvm.MethodName) jdk_52_method_21_code (7 : Nat) (Option.some Jvm.ClassFile.FieldType.int)).before args0 about1 = true := code_word (m := ⟨11, 3⟩) (meth := k11m3) (c := k11c3) (by decide +kernel) rfl rfl rfl (by decide +kernel)
set_option maxRecDepth 65536 in
theorem w_c14 : (Jvm.Cond.code ({ cls := "java/lang/StringUTF16", name := "coderFromArrayLen", desc := "([BI)B" } : Jvm.MethodName) jdk_52_method_15_code (2 : Nat) (Option.some Jvm.ClassFile.FieldType.byte)).before args0 about1 = true := code_word (m := ⟨11, 1⟩) (meth := k11m1) (c := k11c1) (by decide +kernel) rfl rfl rfl (by decide +kernel)
set_option maxRecDepth 65536 in
theorem w_c15 : (Jvm.Cond.code ({ cls := "java/lang/String", name := "equals", desc := "(Ljava/lang/Object;)Z" } : Jvm.MethodName) jdk_42_method_66_code (3 : Nat) (Option.some Jvm.ClassFile.FieldType.boolean)).before args0 about1 = true := code_word (m := ⟨7, 2⟩) (meth := k7m2) (c := k7c2) (by decide +kernel) rfl rfl rfl (by decide +kernel)
set_option maxRecDepth 65536 in
theorem w_c16 : (Jvm.Cond.code ({ cls := "java/lang/StringLatin1", name := "equals", desc := "([B[B)Z" } : Jvm.MethodName) jdk_43_method_13_code (3 : Nat) (Option.some Jvm.ClassFile.FieldType.boolean)).before args0 about1 = true := code_word (m := ⟨10, 2⟩) (meth := k10m2) (c := k10c2) (by decide +kernel) rfl rfl rfl (by decide +kernel)
def codes1 : List Jvm.Cond := [Jvm.Cond.code x code maxLocals ret, Jvm.Cond.code ({ cls := "com/example/grantline/grantline/PermissionKeyEqualsPinLaw", name := "mk", desc := "(ICC)Ljava/lang/String;" } : Jvm.MethodName) method_2_code (3 : Nat) (Option.some (Jvm.ClassFile.FieldType.object "java/lang/String")), Jvm.Cond.code ({ cls := "java/lang/String", name := "<init>", desc := "([C)V" } : Jvm.MethodName) jdk_42_method_3_code (2 : Nat) (Option.none : Option Jvm.ClassFile.FieldType), Jvm.Cond.code ({ cls := "java/lang/String", name := "<init>", desc := "([CIILjava/lang/Void;)V" } : Jvm.MethodName) jdk_42_method_149_code (6 : Nat) (Option.none : Option Jvm.ClassFile.FieldType), Jvm.Cond.code ({ cls := "java/lang/Object", name := "<init>", desc := "()V" } : Jvm.MethodName) object_method_1_code (1 : Nat) (Option.none : Option Jvm.ClassFile.FieldType), Jvm.Cond.code ({ cls := "com/example/grantline/grantline/Permission$Key", name := "<init>", desc := "(ILjava/lang/String;)V" } : Jvm.MethodName) prog_23_method_1_code (3 : Nat) (Option.none : Option Jvm.ClassFile.FieldType), Jvm.Cond.code ({ cls := "java/lang/Record", name := "<init>", desc := "()V" } : Jvm.MethodName) jdk_30_method_1_code (1 : Nat) (Option.none : Option Jvm.ClassFile.FieldType), Jvm.Cond.code ({ cls := "com/example/grantline/grantline/Permission$Key", name := "equals", desc := "(Ljava/lang/Object;)Z" } : Jvm.MethodName) prog_23_method_2_code (3 : Nat) (Option.some Jvm.ClassFile.FieldType.boolean), Jvm.Cond.code ({ cls := "java/lang/String", name := "valueOf", desc := "(C)Ljava/lang/String;" } : Jvm.MethodName) jdk_42_method_139_code (1 : Nat) (Option.some (Jvm.ClassFile.FieldType.object "java/lang/String")), Jvm.Cond.code ({ cls := "java/lang/StringLatin1", name := "canEncode", desc := "(C)Z" } : Jvm.MethodName) jdk_43_method_3_code (1 : Nat) (Option.some Jvm.ClassFile.FieldType.boolean), Jvm.Cond.code ({ cls := "java/lang/StringLatin1", name := "toBytes", desc := "(C)[B" } : Jvm.MethodName) jdk_43_method_46_code (1 : Nat) (Option.some (Jvm.ClassFile.FieldType.array Jvm.ClassFile.FieldType.byte)), Jvm.Cond.code ({ cls := "java/lang/String", name := "<init>", desc := "([BB)V" } : Jvm.MethodName) jdk_42_method_151_code (3 : Nat) (Option.none : Option Jvm.ClassFile.FieldType), Jvm.Cond.code ({ cls := "java/lang/StringUTF16", name := "compress", desc := "([CII)[B" } : Jvm.MethodName) jdk_52_method_16_code (6 : Nat) (Option.some (Jvm.ClassFile.FieldType.array Jvm.ClassFile.FieldType.byte)), Jvm.Cond.code ({ cls := "java/lang/StringUTF16", name := "compress", desc := "([CI[BII)I" } : Jvm.MethodName) jdk_52_method_21_code (7 : Nat) (Option.some Jvm.ClassFile.FieldType.int), Jvm.Cond.code ({ cls := "java/lang/StringUTF16", name := "coderFromArrayLen", desc := "([BI)B" } : Jvm.MethodName) jdk_52_method_15_code (2 : Nat) (Option.some Jvm.ClassFile.FieldType.byte), Jvm.Cond.code ({ cls := "java/lang/String", name := "equals", desc := "(Ljava/lang/Object;)Z" } : Jvm.MethodName) jdk_42_method_66_code (3 : Nat) (Option.some Jvm.ClassFile.FieldType.boolean), Jvm.Cond.code ({ cls := "java/lang/StringLatin1", name := "equals", desc := "([B[B)Z" } : Jvm.MethodName) jdk_43_method_13_code (3 : Nat) (Option.some Jvm.ClassFile.FieldType.boolean)]
set_option maxRecDepth 65536 in
theorem codes_eq : words1.filter isCode = codes1 := rfl
theorem w_codes : ∀ c ∈ words1.filter isCode, c.before args0 about1 = true := by
  rw [codes_eq]
  intro c hc
  simp only [codes1, List.mem_cons, List.not_mem_nil, or_false] at hc
  rcases hc with rfl | rfl | rfl | rfl | rfl | rfl | rfl | rfl | rfl | rfl | rfl | rfl | rfl | rfl | rfl | rfl | rfl
  · exact w_c0
  · exact w_c1
  · exact w_c2
  · exact w_c3
  · exact w_c4
  · exact w_c5
  · exact w_c6
  · exact w_c7
  · exact w_c8
  · exact w_c9
  · exact w_c10
  · exact w_c11
  · exact w_c12
  · exact w_c13
  · exact w_c14
  · exact w_c15
  · exact w_c16
set_option maxRecDepth 65536 in
theorem w_t1 : (words1.take 24).all (fun c => isCode c || c.before args0 about1) = true := by decide +kernel
set_option maxRecDepth 65536 in
theorem w_t2 : ((words1.drop 24).take 24).all (fun c => isCode c || c.before args0 about1) = true := by decide +kernel
set_option maxRecDepth 65536 in
theorem w_t3 : (((words1.drop 24).drop 24).take 24).all (fun c => isCode c || c.before args0 about1) = true := by decide +kernel
set_option maxRecDepth 65536 in
theorem w_t4 : (((words1.drop 24).drop 24).drop 24).all (fun c => isCode c || c.before args0 about1) = true := by decide +kernel
theorem w_tables : (allAtoms (Jvm.Cond.code x code maxLocals ret :: tables_1)).before args0 about1 = true := by
  rw [allAtoms_all]
  show words1.all (fun c => c.before args0 about1) = true
  refine all_split ?_ w_codes
  rw [← List.take_append_drop 24 words1, List.all_append, w_t1, ← List.take_append_drop 24 (words1.drop 24), List.all_append, w_t2, ← List.take_append_drop 24 ((words1.drop 24).drop 24), List.all_append, w_t3, w_t4]
  rfl
set_option maxRecDepth 65536 in
theorem w_rest : rest_1_c.before args0 about1 = true := by decide +kernel
set_option maxRecDepth 65536 in
theorem w_case : (Jvm.Cond.and given_1 narrow_1).before args0 about1 = true := by decide +kernel
set_option maxRecDepth 65536 in
theorem w_consts : constsHeld consts_1 about1 := Jvm.Lit.constsHeldB_iff.mp (by decide +kernel)
theorem w_applies : (headSpec (Jvm.Cond.code x code maxLocals ret :: tables_1) room_1).applies x e0.platform about1 = true :=
  (Spec.applies_iff w_frames).mpr ⟨w_running, w_runnable, w_alone, w_named, w_hears, w_ripe, w_room, w_tables⟩
theorem atStart : AtStart classFile x code maxLocals ret World_1 tables_1 room_1 Calls_1 rest_1 Pre_1 launch0 p0 e0 about1 theMethod args0 below0 :=
  ⟨lists_1, trivial, launch0.admits_env _ _ _, launch0.least_env, fairChoices_fair.cas, fairChoices_fair.clock, w_frames, w_args, w_heap, w_applies, ⟨w_consts, trivial⟩, w_rest, w_case⟩
end start1
theorem witness_1 : WitnessClaimed_1 := ⟨start1.p0, start1.e0, start1.about1, start1.theMethod, start1.args0, start1.below0, start1.atStart⟩
end Jvm.Pilot.@@N@@
