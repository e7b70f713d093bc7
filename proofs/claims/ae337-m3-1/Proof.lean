import JvmDerived
import JvmDerived.Pilot.@@N@@Statement
import JvmDerived.Pilot.@@N@@Code
set_option linter.unusedVariables false
set_option linter.unusedSimpArgs false
set_option maxRecDepth 65536
set_option maxHeartbeats 40000000
namespace Jvm.Pilot.@@N@@
open Jvm Jvm.ClassFile Sem Op Lib Jvm.Free Jvm.Stand Jvm.LawKit Jvm.RoadKit Bundle Jvm.Pilot.@@N@@.Jvm.D
/-! own: the walk by continuation -/
def Go (p : Program) (e : Env) (below : List Frame) (A : State) (G : Outcome → State → Prop) : Prop :=
  ∃ s₂ o, Steps p.tables e below A s₂ ∧ s₂.status = .running ∧ Ended s₂ below o ∧ G o s₂
section Own
variable {p : Program} {l : Launch} {e : Env} {R : Room} {s : State} {m : MethodId} {args : Array Value} {below : List Frame} {meth : Method} {c : Code} {T : State} {locs : List Loc} {cells slots : Nat} {G : Outcome → State → Prop} {A B : State}
theorem go_of (h : ∀ t, Steps p.tables e below B t → Steps p.tables e below A t) (k : Go p e below B G) : Go p e below A G := by
  obtain ⟨s₂, o, h1, h2⟩ := k; exact ⟨s₂, o, h _ h1, h2⟩
theorem go_tr (h : Steps p.tables e below A B) (k : Go p e below B G) : Go p e below A G := go_of (fun _ q => h.trans q) k
theorem go_end (X : Stand p l e R s m args below meth c T locs cells slots) {v : Option Value} (hv : meth.sig.returnType = none → v = none) (hlocks : meth.locks = false) {C S : Nat} (hc : cells ≤ C) (hs : slots ≤ S)
    {Q : Option Value → Heap → List Loc → Prop} (hQ : Q v T.heap locs) {f : JFrame}
    (st : ∀ fs, (∀ (f : JFrame) (acts : List Action), f.method = m → f.locked = none → f.entered = [] → (doReturn e (T.setTop f) acts v).1 = T.setFrames fs) → Steps p.tables e below (T.setTop f) (T.setFrames fs)) :
    Go p e below (T.setTop f) (fun o U' => ∃ v L, o = .returned v ∧ Q v U'.heap L ∧ FrameEnd s o U' L C S) := by
  obtain ⟨fs, hr, hrun, hended, hW, hsame⟩ := X.leave (v := v) hv hlocks
  exact ⟨_, _, st fs hr, hrun, hended, _, _, rfl, hQ, ⟨_, rfl⟩, hW, hsame.mono hc hs⟩
theorem go_endW {vm : Vm} (X : Stand p l e R (s.setVm vm) m args below meth c T locs cells slots) {k : Nat} (hS : s.Since vm k) (hk : k ≤ T.heap.size) {v : Option Value} (hv : meth.sig.returnType = none → v = none) (hlocks : meth.locks = false) {C S : Nat} (hc : cells ≤ C) (hs : slots ≤ S)
    {Q : Option Value → Heap → List Loc → Prop} (hQ : Q v T.heap locs) {f : JFrame}
    (st : ∀ fs, (∀ (f : JFrame) (acts : List Action), f.method = m → f.locked = none → f.entered = [] → (doReturn e (T.setTop f) acts v).1 = T.setFrames fs) → Steps p.tables e below (T.setTop f) (T.setFrames fs)) :
    Go p e below (T.setTop f) (fun o U' => ∃ v L, o = .returned v ∧ Q v U'.heap L ∧ ReturnedEndW s o U' L C S) := by
  obtain ⟨fs, hr, hrun, hended, e1, e2, e3, e4⟩ := X.leaveW hS hk (v := v) hv hlocks
  exact ⟨_, _, st fs hr, hrun, hended, _, _, rfl, hQ, e1, e2, e3, e4.mono hc hs⟩
theorem go_endH {Z : State} {a0 : Array Value} {EL : List (String × Nat)} {vm : Vm} {h0 h1 : Heap} (X : Stand p l e R (s.setVm vm) m args below meth c T locs cells slots) (hZ : Z.Warmed39 vm) (hEL : EW Z a0 EL) (HC : CHr Z EL s.vm h0 vm h1) (hh : s.heap = h0) (eT : T.heap = h1) {k : Nat} (hS : s.Since vm k) (hk : k ≤ T.heap.size) {v : Option Value} (hv : meth.sig.returnType = none → v = none) (hlocks : meth.locks = false) {C S : Nat} (hc : cells ≤ C) (hs : slots ≤ S)
    {Q : Option Value → Heap → List Loc → Prop} (hQ : Q v T.heap locs) {f : JFrame}
    (st : ∀ fs, (∀ (f : JFrame) (acts : List Action), f.method = m → f.locked = none → f.entered = [] → (doReturn e (T.setTop f) acts v).1 = T.setFrames fs) → Steps p.tables e below (T.setTop f) (T.setFrames fs)) :
    Go p e below (T.setTop f) (fun o U' => ∃ v L, o = .returned v ∧ Q v U'.heap L ∧ CHr Z EL s.vm s.heap U'.vm U'.heap ∧ ReturnedEndW s o U' L C S) := by
  obtain ⟨fs, hr, hrun, hended, e1, e2, e3, e4⟩ := X.leaveW hS hk (v := v) hv hlocks
  refine ⟨_, _, st fs hr, hrun, hended, _, _, rfl, hQ, ?_, e1, e2, e3, e4.mono hc hs⟩
  subst hh eT
  have q := HC.trans (CHv.at X hZ hEL HC.1)
  exact q
theorem own_retI (X : Stand p l e R s m args below meth c T locs cells slots) (hx : p.tables.exec = Jvm.exec) {pc : Nat} {Ls : Array Slot} {z : Int32} {rest : List Value} (hret : meth.sig.returnType = some .int) (hd : decode c.code pc = .ok (.ireturn, 1)) {fs : List Frame}
    (hl : ∀ (f : JFrame) (acts : List Action), f.method = m → f.locked = none → f.entered = [] → (doReturn e (T.setTop f) acts (some (.int z))).1 = T.setFrames fs) : Steps p.tables e below (T.setTop (mkF m pc Ls (.int z :: rest))) (T.setFrames fs) :=
  retOut X hx hret rfl (Or.inl ⟨rfl, Or.inl rfl, _, rfl⟩) hd hl
theorem own_retL (X : Stand p l e R s m args below meth c T locs cells slots) (hx : p.tables.exec = Jvm.exec) {pc : Nat} {Ls : Array Slot} {z : Int64} {rest : List Value} (hret : meth.sig.returnType = some .long) (hd : decode c.code pc = .ok (.lreturn, 1)) {fs : List Frame}
    (hl : ∀ (f : JFrame) (acts : List Action), f.method = m → f.locked = none → f.entered = [] → (doReturn e (T.setTop f) acts (some (.long z))).1 = T.setFrames fs) : Steps p.tables e below (T.setTop (mkF m pc Ls (.long z :: rest))) (T.setFrames fs) :=
  retOut X hx hret rfl (Or.inr (Or.inl ⟨rfl, rfl, _, rfl⟩)) hd hl
theorem own_retA (X : Stand p l e R s m args below meth c T locs cells slots) (hx : p.tables.exec = Jvm.exec) {pc : Nat} {Ls : Array Slot} {w : Value} {t : FieldType} {rest : List Value} (hret : meth.sig.returnType = some t) (ht : t.isReference = true) (hw : w.isRef = true) (hd : decode c.code pc = .ok (.areturn, 1)) {fs : List Frame}
    (hl : ∀ (f : JFrame) (acts : List Action), f.method = m → f.locked = none → f.entered = [] → (doReturn e (T.setTop f) acts (some w)).1 = T.setFrames fs) : Steps p.tables e below (T.setTop (mkF m pc Ls (w :: rest))) (T.setFrames fs) :=
  retOut X hx hret (by cases t <;> first | rfl | (cases ht; done)) (Or.inr (Or.inr (Or.inr (Or.inr ⟨rfl, ht, hw⟩)))) hd hl
theorem own_fldI {t : Term} {C n d : String} {k : Int32} {a : Addr} (ev : t.eval args s none [] s = some (.ref a)) (h : (Jvm.Cond.eq (.field t C n d) (.int k)).value args s none s [] = some true) : Fld s s.heap a C n d (.int k) := by
  obtain ⟨x, y, h1, h2, -, kyx⟩ := cmp_v (Or.inl h)
  have e2 : y = .int k := (Option.some.inj (h2.symm.trans (Term.int_eval k)))
  subst e2
  obtain ⟨z, rfl⟩ := kyx
  have hz : z = k := by simpa [Cond.value, h1, Term.int_eval] using h
  subst hz
  rw [fld_at ev] at h1
  exact Fld.start h1
theorem own_tsw (X : Stand p l e R s m args below meth c T locs cells slots) (hexec : p.tables.exec = Jvm.exec) {g : JFrame} (hg : g.method = m) {k : Int32} {rest : List Value} (hstack : g.stack = .int k :: rest) {default low high : Int} {offsets : Array Int} {len pc0 pc' : Nat} (hpc : g.pc = pc0)
    (hdg : decode c.code g.pc = .ok (.tableswitch default low high offsets, len)) (ki : Int) (hk : k.toInt = ki) (hin : ¬ (ki < low ∨ ki > high)) (off : Int) (hoffs : offsets[(ki - low).toNat]? = some off) (hoff : 0 ≤ (pc0 : Int) + off) (hp : ((pc0 : Int) + off).toNat = pc') {target : State}
    (hr : Steps p.tables e below (T.setTop { g with pc := pc', stack := rest }) target) : Steps p.tables e below (T.setTop g) target := by
  subst hpc hk hp; exact X.tableswitchIn hexec hg hstack hdg hin hoffs hoff target hr
theorem own_tswo (X : Stand p l e R s m args below meth c T locs cells slots) (hexec : p.tables.exec = Jvm.exec) {g : JFrame} (hg : g.method = m) {k : Int32} {rest : List Value} (hstack : g.stack = .int k :: rest) {default low high : Int} {offsets : Array Int} {len pc0 pc' : Nat} (hpc : g.pc = pc0)
    (hdg : decode c.code g.pc = .ok (.tableswitch default low high offsets, len)) (hout : k.toInt < low ∨ k.toInt > high) (hoff : 0 ≤ (pc0 : Int) + default) (hp : ((pc0 : Int) + default).toNat = pc') {target : State}
    (hr : Steps p.tables e below (T.setTop { g with pc := pc', stack := rest }) target) : Steps p.tables e below (T.setTop g) target := by
  subst hpc hp; exact X.tableswitchOut hexec hg hstack hdg hout hoff target hr
theorem own_ne {a b : Addr} (h : @Ne Nat a b) : a ≠ b := h
theorem own_lt {a b : Nat} (h : @LT.lt Nat instLTNat a b) : @LT.lt Nat instLTNat a b := h
theorem own_le {a b : Nat} (h : @LE.le Nat instLENat a b) : @LE.le Nat instLENat a b := h
theorem own_nlt {a : Addr} {n : Nat} (h : a < n) : @LT.lt Nat instLTNat a n := h
theorem own_nle {a : Nat} {b : Addr} (h : a ≤ b) : @LE.le Nat instLENat a b := h
theorem own_inskeep {Z : State} {h h' : Heap} {a : Addr} {C : String} {ws : List Addr} (F : Ins Z h a C true) (K : Keep h h' ws) : Ins Z h' a C true := by
  obtain ⟨cell, cT, h1, h2, h3⟩ := F; obtain ⟨c', q, r1, r2, -⟩ := K.2.2 a cell h1; exact ⟨c', cT, q, h2, by rw [r1, r2]; exact h3⟩
theorem own_inslt {Z : State} {h : Heap} {a : Addr} {C : String} {b : Bool} (F : Ins Z h a C b) : a < h.size := by obtain ⟨_, _, h1, -⟩ := F; exact (Array.getElem?_eq_some_iff.mp h1).1
theorem own_kx {h h' : Heap} (K : Keep h h' []) : Ext h h' := ⟨K.1, fun a c q => K.2.1 a c q nin0⟩
theorem own_cache {t : Term} {C : String} {q : Jvm.Cond} {cl : Cell} {a : Addr} {ty : FieldType} (ev : ∀ idx, t.eval args s none idx s = some (.ref a)) (Ar : Arr s s.heap a cl ty)
    (h : (Jvm.Cond.all t (.and (.exactly (.elem t (.index 0)) C) q)).value args s none s [] = some true) (hz : cl.slots.size = 256) : ∀ i, i < 256 → ∃ w, cl.slots[i]? = some (.ref w) ∧ Exa s s.heap w C := fun i hi => by
  have hat : s.arrayAt? a = some cl := Arr.fin (Vm.Alike.refl _) Ar
  have hv := Cond.all_elim (ev []) hat h i (by rw [hz]; exact hi)
  obtain ⟨h1, -⟩ := and_e hv
  obtain ⟨w, ew⟩ := exa_v h1
  have ex := exa_at ew h1
  obtain ⟨p1, p2⟩ := IntBox.place_nonneg i hi
  rw [elem_f (ev [i]) (j := i.toInt32) rfl hat p1, p2] at ew
  exact ⟨w, ew, ex⟩
theorem own_stev {C n d : String} {v : Value} (h : (Term.static C n d).eval args s none [] s = some v) (idx : List Nat) : (Term.static C n d).eval args s none idx s = some v := h
theorem own_len {t : Term} {a : Addr} {cl : Cell} {ty : FieldType} {k : Int32} (ev : t.eval args s none [] s = some (.ref a)) (Ar : Arr s s.heap a cl ty) (h : (Jvm.Cond.eq (.length t) (.int k)).value args s none s [] = some true) (hk : ¬ k < 0) : cl.slots.size = k.toNatClampNeg := by
  have hat : s.arrayAt? a = some cl := Arr.fin (Vm.Alike.refl _) Ar
  obtain ⟨x, y, h1, h2, -, kyx⟩ := cmp_v (Or.inl h)
  have e2 : y = .int k := (Option.some.inj (h2.symm.trans (Term.int_eval k)))
  subst e2
  obtain ⟨z, rfl⟩ := kyx
  have hz : z = k := by simpa [Cond.value, h1, Term.int_eval] using h
  subst hz
  have hl : cl.slots.size < 2 ^ 31 := by
    by_cases q : cl.slots.size < 2 ^ 31
    · exact q
    · simp [Term.eval, ev, hat, q] at h1
  rw [len_f ev hat hl] at h1
  have h3 : cl.slots.size.toInt32 = z := by simpa using h1
  rw [← h3]
  have h4 := len_toInt hl
  simp only [Int32.toNatClampNeg, h4]; rfl
end Own
abbrev TW (a0 : Array Value) (Z : State) : Prop := ∀ d ∈ tables_1, d.before a0 Z = true
abbrev own_MF (l : Launch) (Z : State) (y : MethodName) (bytes : ByteArray) (maxL : Nat) (ret : Option FieldType) (ws : List Cond) (rm : Room) (A : Array Value) (h0 : Heap) (Q : Option Value → Heap → List Loc → Prop) : Prop := MetFree l y (head1 (Jvm.Cond.code y bytes maxL ret :: ws) rm) (fun a U => a = A ∧ Z.Warmed39 U.vm ∧ U.heap = h0) (fun _ _ _ _ _ => True) (fun _ U o U' => ∃ v L, o = .returned v ∧ Q v U'.heap L ∧ FrameEnd U o U' L rm.cells rm.slots)
abbrev own_MFW (l : Launch) (Z : State) (y : MethodName) (bytes : ByteArray) (maxL : Nat) (ret : Option FieldType) (ws : List Cond) (rm : Room) (A : Array Value) (h0 : Heap) (Q : Option Value → Heap → List Loc → Prop) : Prop := MetFree l y (head1 (Jvm.Cond.code y bytes maxL ret :: ws) rm) (fun a U => a = A ∧ Z.Warmed39 U.vm ∧ U.heap = h0) (fun _ _ _ _ _ => True) (fun _ U o U' => ∃ v L, o = .returned v ∧ Q v U'.heap L ∧ ReturnedEndW U o U' L rm.cells rm.slots)
abbrev MN0 : MethodName := ⟨"com/example/wombat/wombat/rules/Descriptor", "<init>", "(Ljava/lang/String;Lcom/example/wombat/wombat/rules/RateLimit;)V"⟩
abbrev MN1 : MethodName := ⟨"com/example/wombat/wombat/rules/Descriptor", "<init>", "(Ljava/lang/String;Ljava/lang/String;Lcom/example/wombat/wombat/rules/RateLimit;Ljava/util/List;)V"⟩
abbrev MN2 : MethodName := ⟨"com/example/wombat/wombat/rules/Descriptor", "rateLimit", "()Lcom/example/wombat/wombat/rules/RateLimit;"⟩
abbrev MN3 : MethodName := ⟨"com/example/wombat/wombat/rules/Limit", "<init>", "(Ljava/util/List;)V"⟩
abbrev MN4 : MethodName := ⟨"com/example/wombat/wombat/rules/Limit", "rateLimit", "()Lcom/example/wombat/wombat/rules/RateLimit;"⟩
abbrev MN5 : MethodName := ⟨"com/example/wombat/wombat/rules/RateLimit", "<init>", "(Lcom/example/wombat/wombat/rules/Algorithm;Lcom/example/wombat/wombat/rules/Unit;JJ)V"⟩
abbrev MN6 : MethodName := ⟨"com/example/wombat/wombat/rules/RateLimit", "requestsPerUnit", "()J"⟩
abbrev MN7 : MethodName := ⟨"java/lang/Math", "min", "(II)I"⟩
abbrev MN8 : MethodName := ⟨"java/lang/Record", "<init>", "()V"⟩
abbrev MN9 : MethodName := ⟨"java/util/AbstractCollection", "<init>", "()V"⟩
abbrev MN10 : MethodName := ⟨"java/util/ArrayList", "<init>", "()V"⟩
abbrev MN11 : MethodName := ⟨"java/util/ArrayList", "add", "(Ljava/lang/Object;)Z"⟩
abbrev MN12 : MethodName := ⟨"java/util/ArrayList", "add", "(Ljava/lang/Object;[Ljava/lang/Object;I)V"⟩
abbrev MN13 : MethodName := ⟨"java/util/ArrayList", "isEmpty", "()Z"⟩
abbrev MN14 : MethodName := ⟨"java/util/ArrayList", "toArray", "()[Ljava/lang/Object;"⟩
abbrev MN15 : MethodName := ⟨"java/util/Arrays", "copyOf", "([Ljava/lang/Object;I)[Ljava/lang/Object;"⟩
abbrev MN16 : MethodName := ⟨"java/util/Arrays", "copyOf", "([Ljava/lang/Object;ILjava/lang/Class;)[Ljava/lang/Object;"⟩
abbrev MN17 : MethodName := ⟨"java/util/Collection", "isEmpty", "()Z"⟩
abbrev MN18 : MethodName := ⟨"java/util/Collection", "toArray", "()[Ljava/lang/Object;"⟩
abbrev MN19 : MethodName := ⟨"java/util/ImmutableCollections", "listCopy", "(Ljava/util/Collection;)Ljava/util/List;"⟩
abbrev MN20 : MethodName := ⟨"java/util/ImmutableCollections$AbstractImmutableList", "<init>", "()V"⟩
abbrev MN21 : MethodName := ⟨"java/util/ImmutableCollections$List12", "get", "(I)Ljava/lang/Object;"⟩
abbrev MN22 : MethodName := ⟨"java/util/ImmutableCollections$List12", "isEmpty", "()Z"⟩
abbrev MN23 : MethodName := ⟨"java/util/ImmutableCollections$List12", "size", "()I"⟩
abbrev MN24 : MethodName := ⟨"java/util/ImmutableCollections$ListN", "get", "(I)Ljava/lang/Object;"⟩
abbrev MN25 : MethodName := ⟨"java/util/ImmutableCollections$ListN", "size", "()I"⟩
abbrev MN26 : MethodName := ⟨"java/util/List", "copyOf", "(Ljava/util/Collection;)Ljava/util/List;"⟩
abbrev MN27 : MethodName := ⟨"java/util/List", "get", "(I)Ljava/lang/Object;"⟩
abbrev MN28 : MethodName := ⟨"java/util/List", "isEmpty", "()Z"⟩
abbrev MN29 : MethodName := ⟨"java/util/List", "of", "()Ljava/util/List;"⟩
abbrev MN30 : MethodName := ⟨"java/util/List", "of", "([Ljava/lang/Object;)Ljava/util/List;"⟩
abbrev MN31 : MethodName := ⟨"java/util/List", "size", "()I"⟩
abbrev MN32 : MethodName := ⟨"java/util/Objects", "requireNonNull", "(Ljava/lang/Object;)Ljava/lang/Object;"⟩
abbrev MN33 : MethodName := ⟨"java/util/Objects", "requireNonNull", "(Ljava/lang/Object;Ljava/lang/String;)Ljava/lang/Object;"⟩
theorem own_wd {a0 : Array Value} {Z : State} (hw : TW a0 Z) (i : Nat) {d : Jvm.Cond} (h : tables_1[i]? = some d) : d.before a0 Z = true := hw _ (List.mem_of_getElem? h)
abbrev own_R (f c s l : Nat) : Room := { frames := f, cells := c, slots := s, locals := l }
theorem own_wS {a0 : Array Value} {Z : State} (hw : ∀ d ∈ tables_1, d.before a0 Z = true) : ∀ a ∈ Bundle.stringAtoms, a.before a0 Z = true := by
  intro a ha
  simp only [Bundle.stringAtoms, List.mem_cons, List.not_mem_nil, or_false] at ha
  rcases ha with rfl | rfl | rfl | rfl | rfl | rfl | rfl
  · exact hw _ (List.mem_of_getElem? (i := 39) rfl)
  · exact hw _ (List.mem_of_getElem? (i := 40) rfl)
  · exact hw _ (List.mem_of_getElem? (i := 41) rfl)
  · exact hw _ (List.mem_of_getElem? (i := 42) rfl)
  · exact hw _ (List.mem_of_getElem? (i := 43) rfl)
  · exact hw _ (List.mem_of_getElem? (i := 44) rfl)
  · exact hw _ (List.mem_of_getElem? (i := 45) rfl)
theorem own_fI {a0 : Array Value} {Z : State} {K : String} {n : Nat} (w : (Cond.instantiable K n).before a0 Z = true) : ∃ t k, Z.vm.findClass K = some t ∧ Z.vm.classes[t]? = some k ∧ k.kind = .ordinary ∧ k.isInterface = false := by
  obtain ⟨c, k, h1, h2, h3, h4, -⟩ := Cond.instantiable_spec w
  exact ⟨c, k, h1, h2, h3, by cases q : k.isInterface <;> simp_all⟩
theorem own_nsroot {a0 : Array Value} {Z : State} {O K : String} {n : Nat} (w : (Cond.noSuperclass O).before a0 Z = true) (wk : (Cond.instantiable K n).before a0 Z = true) (hn : O ≠ K) : NS Z O K := by
  obtain ⟨c, k, h1, h2, h3, -, -⟩ := Cond.noSuperclass_spec w
  obtain ⟨t, kt, g1, -⟩ := own_fI wk
  have ne := ids_ne h1 g1 hn
  refine ⟨c, t, h1, g1, fun fuel => ?_⟩
  cases fuel with
  | zero => rfl
  | succ f => simp [Vm.isSubclassAux, ne, h2, h3]
theorem own_nsno {a0 : Array Value} {Z : State} {C S K : String} {n : Nat} (w : (Cond.superclass C S).before a0 Z = true) (wk : (Cond.instantiable K n).before a0 Z = true) (nn : NS Z C K) (hn : C ≠ K) : ∃ c t, Z.vm.findClass C = some c ∧ Z.vm.findClass K = some t ∧ Z.vm.assignable c t = false := by
  obtain ⟨c, t, h0, g0, n3⟩ := nn
  obtain ⟨p, k, kp, h1, h2, h3, h4, h5, -, h7⟩ := Cond.superclass_spec h0 w
  obtain ⟨t', k', g1, g2, g5, g7⟩ := own_fI wk
  cases g0.symm.trans g1
  have ne := ids_ne h0 g0 hn
  refine ⟨c, t, h0, g0, ?_⟩
  show Z.vm.assignableAux (255 + 1) c t = false
  simp [Vm.assignableAux, ne, h2, g2, h5, g5, g7, Vm.isSubclass, n3]

theorem own_mvM {Z s : State} {a0 args : Array Value} {own host : String} {y : MethodName} {index : Nat} (hZ : Z.Warmed39 s.vm) (w : (Cond.methodLinkNest own index y host).before a0 Z = true) : (Cond.methodLinkNest own index y host).before args s = true := (Cond.methodLinkNest_wide hZ w :)
/-- the class C has its Class object mr -/
def own_Mir (Z : State) (C : String) (mr : Addr) : Prop := ∃ (c : ClassId) (k : Class), Z.vm.findClass C = some c ∧ Z.vm.classes[c]? = some k ∧ k.mirror = some mr
theorem own_mirS {Z s : State} {C : String} {mr : Addr} (hZ : Z.Warmed39 s.vm) (M : own_Mir Z C mr) : own_Mir s C mr := by
  obtain ⟨c, k, h1, h2, h3⟩ := M
  obtain ⟨k', q1, q2⟩ := hZ.alike.2.2 _ _ h2
  exact ⟨c, k', by rw [hZ.alike.findClass]; exact h1, q1, by rw [q2]; exact h3⟩
theorem own_mirT {s : State} {C : String} {mr : Addr} {args : Array Value} (M : own_Mir s C mr) : (Term.mirror C).eval args s none [] s = some (.ref mr) := by
  obtain ⟨c, k, h1, h2, h3⟩ := M
  simp [Term.eval, h1, h2, h3]
theorem own_gcls {p : Program} {l : Launch} {e : Env} {R : Room} {s : State} {m : MethodId} {args : Array Value} {below : List Frame} {meth : Method} {c : Code} {T : State} {locs : List Loc} {cells slots : Nat} {Z : State} {h : Heap} {a mr : Addr}
    (X : Stand p l e R s m args below meth c T locs cells slots) (hx : p.tables.exec = Jvm.exec) (hZ : Z.Warmed39 s.vm) {a0 : Array Value} {own C : String} {index : Nat} (hown : s.vm.findClass own = some m.cls)
    (w1 : (Cond.methodLink own index Jvm.Stand.gcN).before a0 Z = true) (w2 : (Cond.declares Jvm.Stand.gcN).before a0 Z = true) (w3 : (Cond.noSuperclass "java/lang/Object").before a0 Z = true) (w4 : (Cond.selects C Jvm.Stand.gcN Jvm.Stand.gcN).before a0 Z = true)
    (w5 : (Cond.instanceMethod Jvm.Stand.gcN).before a0 Z = true) (w6 : (Cond.native Jvm.Stand.gcN).before a0 Z = true) (eT : T.heap = h) (E : Exa Z h a C) (M : own_Mir Z C mr)
    {g : JFrame} (hg : g.method = m) (hsize : g.locals.size = c.maxLocals) {rest : List Value} (hs : g.stack = .ref a :: rest) (hd : decode c.code g.pc = .ok (.invokevirtual index, 3)) (hf : 1 ≤ R.frames) {W : Nat} (hW : 2 * g.monitorRoom + (rest.map fun v => v.category).sum ≤ W) (hl : W + 14 ≤ R.locals) :
    ∃ vm', Stand p l e R s m args below meth c (T.setVm vm') locs cells slots ∧ ∀ target, Steps p.tables e below ((T.setVm vm').setTop { g with pc := g.pc + 3, stack := .ref mr :: rest }) target → Steps p.tables e below (T.setTop g) target := by
  obtain ⟨cB, kB, i1, -, i3⟩ := isOf hZ eT E
  obtain ⟨cc, kc, m1, m2, m3⟩ := own_mirS hZ M
  cases i1.symm.trans m1
  exact X.getClassOf hx hown (mvT hZ w1) (mvT hZ w2) (nf_top (args := #[]) (mvT hZ w3)) (mvT hZ w4) (mvT hZ w5) (mvT hZ w6) m1 i3 m2 m3 hg hsize hs hd hf (by show 2 * g.monitorRoom + (rest.map fun v => v.category).sum + 14 ≤ R.locals; omega)

theorem own_n3 (z : Int32) : ((z &&& (2147483647 : Int32)) % (3 : Int32)) + (1 : Int32) = 1 ∨ ((z &&& (2147483647 : Int32)) % (3 : Int32)) + (1 : Int32) = 2 ∨ ((z &&& (2147483647 : Int32)) % (3 : Int32)) + (1 : Int32) = 3 := by
  have h : (z &&& (2147483647 : Int32)).toInt = z.toInt % 2147483648 := c_mask z 2147483647 31 (by decide) (by decide)
  generalize (z &&& (2147483647 : Int32)) = y at h
  have h1 := (c_irem y 3 3 rfl).1 (by omega)
  generalize y % (3 : Int32) = w at h1
  have h2 := c_iadd w 1
  have r := rng32 (w + 1)
  have e1 : (1 : Int32).toInt = 1 := rfl; have e2 : (2 : Int32).toInt = 2 := rfl; have e3 : (3 : Int32).toInt = 3 := rfl
  simp only [← Int32.toInt_inj]
  omega
def own_min (x y : Int32) : Int32 := if y < x then y else x
def L2 (Z : State) (h : Heap) (t x y : Addr) : Prop := Exa Z h t "java/util/ImmutableCollections$List12" ∧ Fld Z h t "java/util/ImmutableCollections$List12" "e0" "Ljava/lang/Object;" (.ref x) ∧ Fld Z h t "java/util/ImmutableCollections$List12" "e1" "Ljava/lang/Object;" (.ref y)
def L3 (Z : State) (h : Heap) (t d : Addr) (k : ClassId) (x y z : Addr) : Prop := Exa Z h t "java/util/ImmutableCollections$ListN" ∧ Fld Z h t "java/util/ImmutableCollections$ListN" "elements" "[Ljava/lang/Object;" (.ref d) ∧ Arv Z h d k (.object "java/lang/Object") 3 [.ref x, .ref y, .ref z] .null
theorem d3_0 : decode jdk_30_method_1_code 0 = .ok (.aload_n 0, 1) := by decide +kernel
theorem d3_1 : decode jdk_30_method_1_code 1 = .ok (.invokespecial 1, 3) := by decide +kernel
theorem d3_4 : decode jdk_30_method_1_code 4 = .ok (.return_, 1) := by decide +kernel
def Q_rm3 (Z : State) (a : Addr) (h0 : Heap) (n0 : Nat) (v : Option Value) (h : Heap) (L : List Loc) : Prop := v = none ∧ Fr n0 L ∧ h = h0
theorem pn_java_lang_Record : plainName "java/lang/Record" = true := by first | (simp [plainName, overriddenIn]; done) | decide +kernel
theorem ef_rm3 (m : MethodId) (a : Addr)  : entryFrame m #[(.ref a)] 1 = mkF m 0 #[.val (.ref a)] [] := by first | (simp [entryFrame, mkF, argsToLocals, Value.category]; done) | rfl
theorem rm3 (l : Launch) (Z : State) (a0 : Array Value) (hw : TW a0 Z) (ws : List Cond) (a : Addr) (h0 : Heap) (n0 : Nat) (Z0 : n0 ≤ h0.size)  :
    own_MF l Z MN8 jdk_30_method_1_code 1 none ws (own_R 1 0 0 12) #[(.ref a)] h0 (Q_rm3 Z a h0 n0) := by
  have wd := @own_wd _ _ hw
  refine MetFree.of_bodySF (plainFor_of_name pn_java_lang_Record) hisR ?_
  intro p e s m args below meth c s₁ Bd hml0 hP hK
  obtain ⟨rfl, hZ, hh⟩ := hP
  have hx := Bd.exec
  have hby := Bd.bytes
  have hml : c.maxLocals = 1 := hml0
  have hown : s.vm.findClass "java/lang/Record" = some m.cls := findClass_of_methodNamed Bd.named
  have hnm := (name_of_methodNamed Bd.named Bd.method).1
  have X0 : Stand p l e (own_R 1 0 0 12) s m #[(.ref a)] below meth c s₁ [] 0 0 := Stand.of_body Bd
  have e0 : s₁.heap = h0 := by rw [← hh, Bd.state]; rfl
  have N0 := Fr.nil n0
  refine go_of (A := s₁.setTop (entryFrame m #[(.ref a)] 1)) (B := s₁.setTop (mkF m 0 #[.val (.ref a)] [])) (fun _ kk' => castTop (ef_rm3 m a) kk') ?_
  refine go_of (B := (s₁.setTop (mkF m 1 #[.val (.ref a)] [(.ref a)]))) (fun _ kk => XS.aloadN X0.here hx rfl (hb hby d3_0) rfl rfl kk) ?_
  obtain ⟨T1, X1, e1, st1⟩ := initO X0 hx hZ hown (wd 20 rfl) (wd 21 rfl) (wd 22 rfl) e0 (g := (mkF m 1 #[.val (.ref a)] [(.ref a)])) rfl (by rw [hml]; rfl) rfl (hb hby d3_1) (by decide) (W := 0) (Nat.le_of_eq rfl) (by decide)
  refine go_of (B := (T1.setTop (mkF m 4 #[.val (.ref a)] []))) (st1) ?_
  refine go_end X1 (v := none) (fun _ => rfl) Bd.notSynchronized (by decide) (by decide) (Q := (Q_rm3 Z a h0 n0)) ?_ (fun fs hr => X1.returnOut hx Bd.returns (hb hby d3_4) hr)
  unfold Q_rm3
  try rw [e1]
  exact ⟨rfl, N0, rfl⟩
theorem d2_0 : decode prog_31_method_2_code 0 = .ok (.aload_n 0, 1) := by decide +kernel
theorem d2_1 : decode prog_31_method_2_code 1 = .ok (.invokespecial 1, 3) := by decide +kernel
theorem pd___V : parseMethodDescriptor "()V" = some ⟨[], none⟩ := by decide +kernel
theorem d2_4 : decode prog_31_method_2_code 4 = .ok (.aload_n 0, 1) := by decide +kernel
theorem d2_5 : decode prog_31_method_2_code 5 = .ok (.aload_n 1, 1) := by decide +kernel
theorem d2_6 : decode prog_31_method_2_code 6 = .ok (.putfield 7, 3) := by decide +kernel
theorem d2_9 : decode prog_31_method_2_code 9 = .ok (.aload_n 0, 1) := by decide +kernel
theorem d2_10 : decode prog_31_method_2_code 10 = .ok (.aload_n 2, 1) := by decide +kernel
theorem d2_11 : decode prog_31_method_2_code 11 = .ok (.putfield 13, 3) := by decide +kernel
theorem d2_14 : decode prog_31_method_2_code 14 = .ok (.aload_n 0, 1) := by decide +kernel
theorem d2_15 : decode prog_31_method_2_code 15 = .ok (.lload_n 3, 1) := by decide +kernel
theorem d2_16 : decode prog_31_method_2_code 16 = .ok (.putfield 17, 3) := by decide +kernel
theorem d2_19 : decode prog_31_method_2_code 19 = .ok (.aload_n 0, 1) := by decide +kernel
theorem d2_20 : decode prog_31_method_2_code 20 = .ok (.lload 5, 2) := by decide +kernel
theorem d2_22 : decode prog_31_method_2_code 22 = .ok (.putfield 21, 3) := by decide +kernel
theorem d2_25 : decode prog_31_method_2_code 25 = .ok (.aload_n 0, 1) := by decide +kernel
theorem d2_26 : decode prog_31_method_2_code 26 = .ok (.aload 7, 2) := by decide +kernel
theorem d2_28 : decode prog_31_method_2_code 28 = .ok (.putfield 24, 3) := by decide +kernel
theorem d2_31 : decode prog_31_method_2_code 31 = .ok (.aload_n 0, 1) := by decide +kernel
theorem d2_32 : decode prog_31_method_2_code 32 = .ok (.aload 8, 2) := by decide +kernel
theorem d2_34 : decode prog_31_method_2_code 34 = .ok (.putfield 28, 3) := by decide +kernel
theorem d2_37 : decode prog_31_method_2_code 37 = .ok (.return_, 1) := by decide +kernel
def Q_rl8 (Z : State) (a : Addr) (r : Int64) (bs : Int64) (wT : Addr) (wA : Addr) (v0 : Value) (v1 : Value) (v2 : Value) (v3 : Value) (v4 : Value) (v5 : Value) (h0 : Heap) (n0 : Nat) (v : Option Value) (h : Heap) (L : List Loc) : Prop := v = none ∧ Fr n0 L ∧ Keep h0 h [a] ∧ Exa Z h a "com/example/wombat/wombat/rules/RateLimit" ∧ Fld Z h a "com/example/wombat/wombat/rules/RateLimit" "requestsPerUnit" "J" (.long r)
theorem pn_com_example_wombat_wombat_rules_RateLimit : plainName "com/example/wombat/wombat/rules/RateLimit" = true := by first | (simp [plainName, overriddenIn]; done) | decide +kernel
theorem ef_rl8 (m : MethodId) (a : Addr) (r : Int64) (bs : Int64) (wT : Addr) (wA : Addr)  : entryFrame m #[(.ref a), .null, .null, (.long r), (.long bs), (.ref wT), (.ref wA)] 9 = mkF m 0 #[.val (.ref a), .val .null, .val .null, .val (.long r), .second, .val (.long bs), .second, .val (.ref wT), .val (.ref wA)] [] := by first | (simp [entryFrame, mkF, argsToLocals, Value.category]; done) | rfl
theorem rl8 (l : Launch) (Z : State) (a0 : Array Value) (hw : TW a0 Z) (ws : List Cond) (a : Addr) (r : Int64) (bs : Int64) (wT : Addr) (wA : Addr) (v0 : Value) (v1 : Value) (v2 : Value) (v3 : Value) (v4 : Value) (v5 : Value) (h0 : Heap) (n0 : Nat) (Z0 : n0 ≤ h0.size) (Ea : Exa Z h0 a "com/example/wombat/wombat/rules/RateLimit") (Fa0 : Fld Z h0 a "com/example/wombat/wombat/rules/RateLimit" "algorithm" "Lcom/example/wombat/wombat/rules/Algorithm;" v0) (Fa1 : Fld Z h0 a "com/example/wombat/wombat/rules/RateLimit" "unit" "Lcom/example/wombat/wombat/rules/Unit;" v1) (Fa2 : Fld Z h0 a "com/example/wombat/wombat/rules/RateLimit" "requestsPerUnit" "J" v2) (Fa3 : Fld Z h0 a "com/example/wombat/wombat/rules/RateLimit" "bucketSize" "J" v3) (Fa4 : Fld Z h0 a "com/example/wombat/wombat/rules/RateLimit" "storeTimeout" "Ljava/time/Duration;" v4) (Fa5 : Fld Z h0 a "com/example/wombat/wombat/rules/RateLimit" "onStoreFailure" "Lcom/example/wombat/wombat/rules/OnStoreFailure;" v5) (g : n0 ≤ a) :
    own_MF l Z (⟨"com/example/wombat/wombat/rules/RateLimit", "<init>", "(Lcom/example/wombat/wombat/rules/Algorithm;Lcom/example/wombat/wombat/rules/Unit;JJLjava/time/Duration;Lcom/example/wombat/wombat/rules/OnStoreFailure;)V"⟩ : MethodName) prog_31_method_2_code 9 none ws (own_R 2 0 0 24) #[(.ref a), .null, .null, (.long r), (.long bs), (.ref wT), (.ref wA)] h0 (Q_rl8 Z a r bs wT wA v0 v1 v2 v3 v4 v5 h0 n0) := by
  have wd := @own_wd _ _ hw
  refine MetFree.of_bodySF (plainFor_of_name pn_com_example_wombat_wombat_rules_RateLimit) hisR ?_
  intro p e s m args below meth c s₁ Bd hml0 hP hK
  obtain ⟨rfl, hZ, hh⟩ := hP
  have hx := Bd.exec
  have hby := Bd.bytes
  have hml : c.maxLocals = 9 := hml0
  have hown : s.vm.findClass "com/example/wombat/wombat/rules/RateLimit" = some m.cls := findClass_of_methodNamed Bd.named
  have hnm := (name_of_methodNamed Bd.named Bd.method).1
  have X0 : Stand p l e (own_R 2 0 0 24) s m #[(.ref a), .null, .null, (.long r), (.long bs), (.ref wT), (.ref wA)] below meth c s₁ [] 0 0 := Stand.of_body Bd
  have e0 : s₁.heap = h0 := by rw [← hh, Bd.state]; rfl
  have N0 := Fr.nil n0
  have lta := own_nlt (Ea.lt)
  refine go_of (A := s₁.setTop (entryFrame m #[(.ref a), .null, .null, (.long r), (.long bs), (.ref wT), (.ref wA)] 9)) (B := s₁.setTop (mkF m 0 #[.val (.ref a), .val .null, .val .null, .val (.long r), .second, .val (.long bs), .second, .val (.ref wT), .val (.ref wA)] [])) (fun _ kk' => castTop (ef_rl8 m a r bs wT wA) kk') ?_
  refine go_of (B := (s₁.setTop (mkF m 1 #[.val (.ref a), .val .null, .val .null, .val (.long r), .second, .val (.long bs), .second, .val (.ref wT), .val (.ref wA)] [(.ref a)]))) (fun _ kk => XS.aloadN X0.here hx rfl (hb hby d2_0) rfl rfl kk) ?_
  obtain ⟨_, _, ⟨T1, L1, k1, n1⟩, -, X1, ⟨Lc1, hQ1, l1, y1, z1⟩, st1⟩ := X0.specialBack hx (y := MN8) rfl hown (mvT hZ (wd 15 rfl)) (mvT hZ (wd 16 rfl)) (mvT hZ (wd 19 rfl)) (by decide) (backOf (W := 0) (rm3 l Z a0 hw [] a h0 n0 (by omega)) hZ (wd 19 rfl) (wd 18 rfl) (by decide) (by decide)) (g := (mkF m 1 #[.val (.ref a), .val .null, .val .null, .val (.long r), .second, .val (.long bs), .second, .val (.ref wT), .val (.ref wA)] [(.ref a)])) rfl (by rw [hml]; rfl) (Steps.refl _) (a := a) (argsL := []) (rest := []) (lenOf pd___V rfl) rfl (Nat.le_of_eq rfl) (hb hby d2_1) (fun _ _ => ⟨rfl, e0, (by decide : 0 + 0 ≤ _), (by decide : 0 + 0 ≤ _)⟩)
  dsimp only [Pt.U, Pt.locs, Pt.cells, Pt.slots] at X1 l1 y1 z1 st1 hQ1
  subst l1 y1 z1
  obtain ⟨rfl, N1q, e1⟩ := hQ1
  have N1 := Fr.app N0 N1q
  refine go_tr (B := (T1.setTop (mkF m 4 #[.val (.ref a), .val .null, .val .null, .val (.long r), .second, .val (.long bs), .second, .val (.ref wT), .val (.ref wA)] []))) (st1) ?_
  refine go_of (B := (T1.setTop (mkF m 6 #[.val (.ref a), .val .null, .val .null, .val (.long r), .second, .val (.long bs), .second, .val (.ref wT), .val (.ref wA)] [.null, (.ref a)]))) (fun _ kk => XS.aloadN X1.here hx rfl (hb hby d2_4) rfl rfl (XS.aloadN X1.here hx rfl (hb hby d2_5) rfl rfl kk)) ?_
  obtain ⟨T2, h2, X2, e2, W2, st2⟩ := putF X1 hx hZ hown (host := "") (Or.inl (wd 23 rfl)) Via.refl e1 Fa0 Ea (Or.inr ⟨(wd 24 rfl), rfl, hnm⟩) (wd 2 rfl) (ty := (.object "com/example/wombat/wombat/rules/Algorithm")) (by decide) rfl rfl (g := (mkF m 6 #[.val (.ref a), .val .null, .val .null, .val (.long r), .second, .val (.long bs), .second, .val (.ref wT), .val (.ref wA)] [.null, (.ref a)])) rfl rfl (hb hby d2_6)
  have sz2 := W2.size
  have Fw2 := Fa0.same W2
  have N2 := Fr.snoc X2 N1 (g : n0 ≤ a)
  refine go_of (B := (T2.setTop (mkF m 9 #[.val (.ref a), .val .null, .val .null, .val (.long r), .second, .val (.long bs), .second, .val (.ref wT), .val (.ref wA)] []))) (st2) ?_
  refine go_of (B := (T2.setTop (mkF m 11 #[.val (.ref a), .val .null, .val .null, .val (.long r), .second, .val (.long bs), .second, .val (.ref wT), .val (.ref wA)] [.null, (.ref a)]))) (fun _ kk => XS.aloadN X2.here hx rfl (hb hby d2_9) rfl rfl (XS.aloadN X2.here hx rfl (hb hby d2_10) rfl rfl kk)) ?_
  have cf_3 := (Ea.wr W2)
  have cf_4 := (Fa1.other W2 (Or.inr (slot_ne (Or.inr (wd 26 rfl)) (Or.inr (wd 24 rfl)) (by decide) (t := (.object "com/example/wombat/wombat/rules/Unit")) (t' := (.object "com/example/wombat/wombat/rules/Algorithm")) (by decide) (by decide))))
  obtain ⟨T5, h5, X5, e5, W5, st5⟩ := putF X2 hx hZ hown (host := "") (Or.inl (wd 25 rfl)) Via.refl e2 cf_4 cf_3 (Or.inr ⟨(wd 26 rfl), rfl, hnm⟩) (wd 2 rfl) (ty := (.object "com/example/wombat/wombat/rules/Unit")) (by decide) rfl rfl (g := (mkF m 11 #[.val (.ref a), .val .null, .val .null, .val (.long r), .second, .val (.long bs), .second, .val (.ref wT), .val (.ref wA)] [.null, (.ref a)])) rfl rfl (hb hby d2_11)
  have sz5 := W5.size
  have Fw5 := cf_4.same W5
  have N5 := Fr.snoc X5 N2 (g : n0 ≤ a)
  refine go_of (B := (T5.setTop (mkF m 14 #[.val (.ref a), .val .null, .val .null, .val (.long r), .second, .val (.long bs), .second, .val (.ref wT), .val (.ref wA)] []))) (st5) ?_
  refine go_of (B := (T5.setTop (mkF m 16 #[.val (.ref a), .val .null, .val .null, .val (.long r), .second, .val (.long bs), .second, .val (.ref wT), .val (.ref wA)] [(.long r), (.ref a)]))) (fun _ kk => XS.aloadN X5.here hx rfl (hb hby d2_14) rfl rfl (XS.lloadN X5.here hx rfl (hb hby d2_15) rfl kk)) ?_
  have cf_6 := (cf_3.wr W5)
  have cf_7 := ((Fa2.other W2 (Or.inr (slot_ne (Or.inr (wd 28 rfl)) (Or.inr (wd 24 rfl)) (by decide) (t := .long) (t' := (.object "com/example/wombat/wombat/rules/Algorithm")) (by decide) (by decide)))).other W5 (Or.inr (slot_ne (Or.inr (wd 28 rfl)) (Or.inr (wd 26 rfl)) (by decide) (t := .long) (t' := (.object "com/example/wombat/wombat/rules/Unit")) (by decide) (by decide))))
  obtain ⟨T8, h8, X8, e8, W8, st8⟩ := putF X5 hx hZ hown (host := "") (Or.inl (wd 27 rfl)) Via.refl e5 cf_7 cf_6 (Or.inr ⟨(wd 28 rfl), rfl, hnm⟩) (wd 2 rfl) (ty := .long) (by decide) rfl rfl (g := (mkF m 16 #[.val (.ref a), .val .null, .val .null, .val (.long r), .second, .val (.long bs), .second, .val (.ref wT), .val (.ref wA)] [(.long r), (.ref a)])) rfl rfl (hb hby d2_16)
  have sz8 := W8.size
  have Fw8 := cf_7.same W8
  have N8 := Fr.snoc X8 N5 (g : n0 ≤ a)
  refine go_of (B := (T8.setTop (mkF m 19 #[.val (.ref a), .val .null, .val .null, .val (.long r), .second, .val (.long bs), .second, .val (.ref wT), .val (.ref wA)] []))) (st8) ?_
  refine go_of (B := (T8.setTop (mkF m 22 #[.val (.ref a), .val .null, .val .null, .val (.long r), .second, .val (.long bs), .second, .val (.ref wT), .val (.ref wA)] [(.long bs), (.ref a)]))) (fun _ kk => XS.aloadN X8.here hx rfl (hb hby d2_19) rfl rfl (XS.lload X8.here hx rfl (hb hby d2_20) rfl kk)) ?_
  have cf_9 := (cf_6.wr W8)
  have cf_10 := (((Fa3.other W2 (Or.inr (slot_ne (Or.inr (wd 30 rfl)) (Or.inr (wd 24 rfl)) (by decide) (t := .long) (t' := (.object "com/example/wombat/wombat/rules/Algorithm")) (by decide) (by decide)))).other W5 (Or.inr (slot_ne (Or.inr (wd 30 rfl)) (Or.inr (wd 26 rfl)) (by decide) (t := .long) (t' := (.object "com/example/wombat/wombat/rules/Unit")) (by decide) (by decide)))).other W8 (Or.inr (slot_ne (Or.inr (wd 30 rfl)) (Or.inr (wd 28 rfl)) (by decide) (t := .long) (t' := .long) (by decide) (by decide))))
  obtain ⟨T11, h11, X11, e11, W11, st11⟩ := putF X8 hx hZ hown (host := "") (Or.inl (wd 29 rfl)) Via.refl e8 cf_10 cf_9 (Or.inr ⟨(wd 30 rfl), rfl, hnm⟩) (wd 2 rfl) (ty := .long) (by decide) rfl rfl (g := (mkF m 22 #[.val (.ref a), .val .null, .val .null, .val (.long r), .second, .val (.long bs), .second, .val (.ref wT), .val (.ref wA)] [(.long bs), (.ref a)])) rfl rfl (hb hby d2_22)
  have sz11 := W11.size
  have Fw11 := cf_10.same W11
  have N11 := Fr.snoc X11 N8 (g : n0 ≤ a)
  refine go_of (B := (T11.setTop (mkF m 25 #[.val (.ref a), .val .null, .val .null, .val (.long r), .second, .val (.long bs), .second, .val (.ref wT), .val (.ref wA)] []))) (st11) ?_
  refine go_of (B := (T11.setTop (mkF m 28 #[.val (.ref a), .val .null, .val .null, .val (.long r), .second, .val (.long bs), .second, .val (.ref wT), .val (.ref wA)] [(.ref wT), (.ref a)]))) (fun _ kk => XS.aloadN X11.here hx rfl (hb hby d2_25) rfl rfl (XS.aload X11.here hx rfl (hb hby d2_26) rfl rfl kk)) ?_
  have cf_12 := (cf_9.wr W11)
  have cf_13 := ((((Fa4.other W2 (Or.inr (slot_ne (Or.inr (wd 32 rfl)) (Or.inr (wd 24 rfl)) (by decide) (t := (.object "java/time/Duration")) (t' := (.object "com/example/wombat/wombat/rules/Algorithm")) (by decide) (by decide)))).other W5 (Or.inr (slot_ne (Or.inr (wd 32 rfl)) (Or.inr (wd 26 rfl)) (by decide) (t := (.object "java/time/Duration")) (t' := (.object "com/example/wombat/wombat/rules/Unit")) (by decide) (by decide)))).other W8 (Or.inr (slot_ne (Or.inr (wd 32 rfl)) (Or.inr (wd 28 rfl)) (by decide) (t := (.object "java/time/Duration")) (t' := .long) (by decide) (by decide)))).other W11 (Or.inr (slot_ne (Or.inr (wd 32 rfl)) (Or.inr (wd 30 rfl)) (by decide) (t := (.object "java/time/Duration")) (t' := .long) (by decide) (by decide))))
  obtain ⟨T14, h14, X14, e14, W14, st14⟩ := putF X11 hx hZ hown (host := "") (Or.inl (wd 31 rfl)) Via.refl e11 cf_13 cf_12 (Or.inr ⟨(wd 32 rfl), rfl, hnm⟩) (wd 2 rfl) (ty := (.object "java/time/Duration")) (by decide) rfl rfl (g := (mkF m 28 #[.val (.ref a), .val .null, .val .null, .val (.long r), .second, .val (.long bs), .second, .val (.ref wT), .val (.ref wA)] [(.ref wT), (.ref a)])) rfl rfl (hb hby d2_28)
  have sz14 := W14.size
  have Fw14 := cf_13.same W14
  have N14 := Fr.snoc X14 N11 (g : n0 ≤ a)
  refine go_of (B := (T14.setTop (mkF m 31 #[.val (.ref a), .val .null, .val .null, .val (.long r), .second, .val (.long bs), .second, .val (.ref wT), .val (.ref wA)] []))) (st14) ?_
  refine go_of (B := (T14.setTop (mkF m 34 #[.val (.ref a), .val .null, .val .null, .val (.long r), .second, .val (.long bs), .second, .val (.ref wT), .val (.ref wA)] [(.ref wA), (.ref a)]))) (fun _ kk => XS.aloadN X14.here hx rfl (hb hby d2_31) rfl rfl (XS.aload X14.here hx rfl (hb hby d2_32) rfl rfl kk)) ?_
  have cf_15 := (cf_12.wr W14)
  have cf_16 := (((((Fa5.other W2 (Or.inr (slot_ne (Or.inr (wd 34 rfl)) (Or.inr (wd 24 rfl)) (by decide) (t := (.object "com/example/wombat/wombat/rules/OnStoreFailure")) (t' := (.object "com/example/wombat/wombat/rules/Algorithm")) (by decide) (by decide)))).other W5 (Or.inr (slot_ne (Or.inr (wd 34 rfl)) (Or.inr (wd 26 rfl)) (by decide) (t := (.object "com/example/wombat/wombat/rules/OnStoreFailure")) (t' := (.object "com/example/wombat/wombat/rules/Unit")) (by decide) (by decide)))).other W8 (Or.inr (slot_ne (Or.inr (wd 34 rfl)) (Or.inr (wd 28 rfl)) (by decide) (t := (.object "com/example/wombat/wombat/rules/OnStoreFailure")) (t' := .long) (by decide) (by decide)))).other W11 (Or.inr (slot_ne (Or.inr (wd 34 rfl)) (Or.inr (wd 30 rfl)) (by decide) (t := (.object "com/example/wombat/wombat/rules/OnStoreFailure")) (t' := .long) (by decide) (by decide)))).other W14 (Or.inr (slot_ne (Or.inr (wd 34 rfl)) (Or.inr (wd 32 rfl)) (by decide) (t := (.object "com/example/wombat/wombat/rules/OnStoreFailure")) (t' := (.object "java/time/Duration")) (by decide) (by decide))))
  obtain ⟨T17, h17, X17, e17, W17, st17⟩ := putF X14 hx hZ hown (host := "") (Or.inl (wd 33 rfl)) Via.refl e14 cf_16 cf_15 (Or.inr ⟨(wd 34 rfl), rfl, hnm⟩) (wd 2 rfl) (ty := (.object "com/example/wombat/wombat/rules/OnStoreFailure")) (by decide) rfl rfl (g := (mkF m 34 #[.val (.ref a), .val .null, .val .null, .val (.long r), .second, .val (.long bs), .second, .val (.ref wT), .val (.ref wA)] [(.ref wA), (.ref a)])) rfl rfl (hb hby d2_34)
  have sz17 := W17.size
  have Fw17 := cf_16.same W17
  have N17 := Fr.snoc X17 N14 (g : n0 ≤ a)
  refine go_of (B := (T17.setTop (mkF m 37 #[.val (.ref a), .val .null, .val .null, .val (.long r), .second, .val (.long bs), .second, .val (.ref wT), .val (.ref wA)] []))) (st17) ?_
  have cf_18 := (cf_15.wr W17)
  have cf_19 := (((Fw8.other W11 (Or.inr (slot_ne (Or.inr (wd 28 rfl)) (Or.inr (wd 30 rfl)) (by decide) (t := .long) (t' := .long) (by decide) (by decide)))).other W14 (Or.inr (slot_ne (Or.inr (wd 28 rfl)) (Or.inr (wd 32 rfl)) (by decide) (t := .long) (t' := (.object "java/time/Duration")) (by decide) (by decide)))).other W17 (Or.inr (slot_ne (Or.inr (wd 28 rfl)) (Or.inr (wd 34 rfl)) (by decide) (t := .long) (t' := (.object "com/example/wombat/wombat/rules/OnStoreFailure")) (by decide) (by decide))))
  refine go_end X17 (v := none) (fun _ => rfl) Bd.notSynchronized (by decide) (by decide) (Q := (Q_rl8 Z a r bs wT wA v0 v1 v2 v3 v4 v5 h0 n0)) ?_ (fun fs hr => X17.returnOut hx Bd.returns (hb hby d2_37) hr)
  unfold Q_rl8
  try rw [e17]
  exact ⟨rfl, N17, (((((((Keep.refl h0 [a]).wr W2 (Or.inl (List.mem_of_getElem? (i := 0) rfl))).wr W5 (Or.inl (List.mem_of_getElem? (i := 0) rfl))).wr W8 (Or.inl (List.mem_of_getElem? (i := 0) rfl))).wr W11 (Or.inl (List.mem_of_getElem? (i := 0) rfl))).wr W14 (Or.inl (List.mem_of_getElem? (i := 0) rfl))).wr W17 (Or.inl (List.mem_of_getElem? (i := 0) rfl))), cf_18, cf_19⟩
theorem d1_0 : decode prog_31_method_1_code 0 = .ok (.aload_n 0, 1) := by decide +kernel
theorem d1_1 : decode prog_31_method_1_code 1 = .ok (.aload_n 1, 1) := by decide +kernel
theorem d1_2 : decode prog_31_method_1_code 2 = .ok (.aload_n 2, 1) := by decide +kernel
theorem d1_3 : decode prog_31_method_1_code 3 = .ok (.lload_n 3, 1) := by decide +kernel
theorem d1_4 : decode prog_31_method_1_code 4 = .ok (.lload 5, 2) := by decide +kernel
theorem d1_6 : decode prog_31_method_1_code 6 = .ok (.getstatic 32, 3) := by decide +kernel
theorem d1_9 : decode prog_31_method_1_code 9 = .ok (.getstatic 35, 3) := by decide +kernel
theorem d1_12 : decode prog_31_method_1_code 12 = .ok (.invokespecial 40, 3) := by decide +kernel
theorem pd__Lcom_example_wombat_wombat_rules_Algorithm_Lcom_example_wombat_wombat_rules_Unit_JJLjava_time_Duration_Lcom_example_wombat_wombat_rules_OnStoreFailure__V : parseMethodDescriptor "(Lcom/example/wombat/wombat/rules/Algorithm;Lcom/example/wombat/wombat/rules/Unit;JJLjava/time/Duration;Lcom/example/wombat/wombat/rules/OnStoreFailure;)V" = some ⟨[(.object "com/example/wombat/wombat/rules/Algorithm"), (.object "com/example/wombat/wombat/rules/Unit"), .long, .long, (.object "java/time/Duration"), (.object "com/example/wombat/wombat/rules/OnStoreFailure")], none⟩ := by decide +kernel
theorem d1_15 : decode prog_31_method_1_code 15 = .ok (.return_, 1) := by decide +kernel
def Q_rl4 (Z : State) (a : Addr) (r : Int64) (bs : Int64) (v0 : Value) (v1 : Value) (v2 : Value) (v3 : Value) (v4 : Value) (v5 : Value) (wT : Addr) (wA : Addr) (h0 : Heap) (n0 : Nat) (v : Option Value) (h : Heap) (L : List Loc) : Prop := v = none ∧ Fr n0 L ∧ Keep h0 h [a] ∧ Exa Z h a "com/example/wombat/wombat/rules/RateLimit" ∧ Fld Z h a "com/example/wombat/wombat/rules/RateLimit" "requestsPerUnit" "J" (.long r)
theorem ef_rl4 (m : MethodId) (a : Addr) (r : Int64) (bs : Int64)  : entryFrame m #[(.ref a), .null, .null, (.long r), (.long bs)] 7 = mkF m 0 #[.val (.ref a), .val .null, .val .null, .val (.long r), .second, .val (.long bs), .second] [] := by first | (simp [entryFrame, mkF, argsToLocals, Value.category]; done) | rfl
theorem rl4 (l : Launch) (Z : State) (a0 : Array Value) (hw : TW a0 Z) (ws : List Cond) (a : Addr) (r : Int64) (bs : Int64) (v0 : Value) (v1 : Value) (v2 : Value) (v3 : Value) (v4 : Value) (v5 : Value) (wT : Addr) (wA : Addr) (h0 : Heap) (n0 : Nat) (Z0 : n0 ≤ h0.size) (O : Old Z n0 h0) (ST : Sta Z Z.heap "com/example/wombat/wombat/rules/RateLimit" "DEFAULT_STORE_TIMEOUT" "Ljava/time/Duration;" (.ref wT)) (SA : Sta Z Z.heap "com/example/wombat/wombat/rules/OnStoreFailure" "ALLOW" "Lcom/example/wombat/wombat/rules/OnStoreFailure;" (.ref wA)) (Ea : Exa Z h0 a "com/example/wombat/wombat/rules/RateLimit") (Fa0 : Fld Z h0 a "com/example/wombat/wombat/rules/RateLimit" "algorithm" "Lcom/example/wombat/wombat/rules/Algorithm;" v0) (Fa1 : Fld Z h0 a "com/example/wombat/wombat/rules/RateLimit" "unit" "Lcom/example/wombat/wombat/rules/Unit;" v1) (Fa2 : Fld Z h0 a "com/example/wombat/wombat/rules/RateLimit" "requestsPerUnit" "J" v2) (Fa3 : Fld Z h0 a "com/example/wombat/wombat/rules/RateLimit" "bucketSize" "J" v3) (Fa4 : Fld Z h0 a "com/example/wombat/wombat/rules/RateLimit" "storeTimeout" "Ljava/time/Duration;" v4) (Fa5 : Fld Z h0 a "com/example/wombat/wombat/rules/RateLimit" "onStoreFailure" "Lcom/example/wombat/wombat/rules/OnStoreFailure;" v5) (g : n0 ≤ a) :
    own_MF l Z MN5 prog_31_method_1_code 7 none ws (own_R 3 0 0 44) #[(.ref a), .null, .null, (.long r), (.long bs)] h0 (Q_rl4 Z a r bs v0 v1 v2 v3 v4 v5 wT wA h0 n0) := by
  have wd := @own_wd _ _ hw
  refine MetFree.of_bodySF (plainFor_of_name pn_com_example_wombat_wombat_rules_RateLimit) hisR ?_
  intro p e s m args below meth c s₁ Bd hml0 hP hK
  obtain ⟨rfl, hZ, hh⟩ := hP
  have hx := Bd.exec
  have hby := Bd.bytes
  have hml : c.maxLocals = 7 := hml0
  have hown : s.vm.findClass "com/example/wombat/wombat/rules/RateLimit" = some m.cls := findClass_of_methodNamed Bd.named
  have hnm := (name_of_methodNamed Bd.named Bd.method).1
  have X0 : Stand p l e (own_R 3 0 0 44) s m #[(.ref a), .null, .null, (.long r), (.long bs)] below meth c s₁ [] 0 0 := Stand.of_body Bd
  have e0 : s₁.heap = h0 := by rw [← hh, Bd.state]; rfl
  have N0 := Fr.nil n0
  have lta := own_nlt (Ea.lt)
  refine go_of (A := s₁.setTop (entryFrame m #[(.ref a), .null, .null, (.long r), (.long bs)] 7)) (B := s₁.setTop (mkF m 0 #[.val (.ref a), .val .null, .val .null, .val (.long r), .second, .val (.long bs), .second] [])) (fun _ kk' => castTop (ef_rl4 m a r bs) kk') ?_
  refine go_of (B := (s₁.setTop (mkF m 6 #[.val (.ref a), .val .null, .val .null, .val (.long r), .second, .val (.long bs), .second] [(.long bs), (.long r), .null, .null, (.ref a)]))) (fun _ kk => XS.aloadN X0.here hx rfl (hb hby d1_0) rfl rfl (XS.aloadN X0.here hx rfl (hb hby d1_1) rfl rfl (XS.aloadN X0.here hx rfl (hb hby d1_2) rfl rfl (XS.lloadN X0.here hx rfl (hb hby d1_3) rfl (XS.lload X0.here hx rfl (hb hby d1_4) rfl kk))))) ?_
  obtain ⟨T1, X1, e1, st1⟩ := getS2 X0 hx hZ hown (host := "") (Or.inl (wd 7 rfl)) Via.refl e0 (ST.ext O.2) (g := (mkF m 6 #[.val (.ref a), .val .null, .val .null, .val (.long r), .second, .val (.long bs), .second] [(.long bs), (.long r), .null, .null, (.ref a)])) rfl (hb hby d1_6)
  refine go_of (B := (T1.setTop (mkF m 9 #[.val (.ref a), .val .null, .val .null, .val (.long r), .second, .val (.long bs), .second] [(.ref wT), (.long bs), (.long r), .null, .null, (.ref a)]))) (st1) ?_
  obtain ⟨T2, X2, e2, st2⟩ := getS2 X1 hx hZ hown (host := "") (Or.inl (wd 9 rfl)) Via.refl e1 (SA.ext O.2) (g := (mkF m 9 #[.val (.ref a), .val .null, .val .null, .val (.long r), .second, .val (.long bs), .second] [(.ref wT), (.long bs), (.long r), .null, .null, (.ref a)])) rfl (hb hby d1_9)
  refine go_of (B := (T2.setTop (mkF m 12 #[.val (.ref a), .val .null, .val .null, .val (.long r), .second, .val (.long bs), .second] [(.ref wA), (.ref wT), (.long bs), (.long r), .null, .null, (.ref a)]))) (st2) ?_
  obtain ⟨_, _, ⟨T3, L3, k3, n3⟩, -, X3, ⟨Lc3, hQ3, l3, y3, z3⟩, st3⟩ := X2.specialBack hx (y := (⟨"com/example/wombat/wombat/rules/RateLimit", "<init>", "(Lcom/example/wombat/wombat/rules/Algorithm;Lcom/example/wombat/wombat/rules/Unit;JJLjava/time/Duration;Lcom/example/wombat/wombat/rules/OnStoreFailure;)V"⟩ : MethodName)) rfl hown (mvT hZ (wd 12 rfl)) (mvT hZ (wd 13 rfl)) (mvT hZ (wd 14 rfl)) (by decide) (backOf (W := 0) (rl8 l Z a0 hw [] a r bs wT wA v0 v1 v2 v3 v4 v5 h0 n0 (by omega) Ea Fa0 Fa1 Fa2 Fa3 Fa4 Fa5 g) hZ (wd 14 rfl) (wd 3 rfl) (by decide) (by decide)) (g := (mkF m 12 #[.val (.ref a), .val .null, .val .null, .val (.long r), .second, .val (.long bs), .second] [(.ref wA), (.ref wT), (.long bs), (.long r), .null, .null, (.ref a)])) rfl (by rw [hml]; rfl) (Steps.refl _) (a := a) (argsL := [.null, .null, (.long r), (.long bs), (.ref wT), (.ref wA)]) (rest := []) (lenOf pd__Lcom_example_wombat_wombat_rules_Algorithm_Lcom_example_wombat_wombat_rules_Unit_JJLjava_time_Duration_Lcom_example_wombat_wombat_rules_OnStoreFailure__V rfl) rfl (Nat.le_of_eq rfl) (hb hby d1_12) (fun _ _ => ⟨rfl, e2, (by decide : 0 + 0 ≤ _), (by decide : 0 + 0 ≤ _)⟩)
  dsimp only [Pt.U, Pt.locs, Pt.cells, Pt.slots] at X3 l3 y3 z3 st3 hQ3
  subst l3 y3 z3
  obtain ⟨rfl, N3q, K3, A3⟩ := hQ3
  have N3 := Fr.app N0 N3q
  have sz3 := K3.1
  refine go_tr (B := (T3.setTop (mkF m 15 #[.val (.ref a), .val .null, .val .null, .val (.long r), .second, .val (.long bs), .second] []))) (st3) ?_
  refine go_end X3 (v := none) (fun _ => rfl) Bd.notSynchronized (by decide) (by decide) (Q := (Q_rl4 Z a r bs v0 v1 v2 v3 v4 v5 wT wA h0 n0)) ?_ (fun fs hr => X3.returnOut hx Bd.returns (hb hby d1_15) hr)
  unfold Q_rl4
  exact ⟨rfl, N3, ((Keep.refl h0 [a]).trans K3 (allS (Or.inl (List.mem_of_getElem? (i := 0) rfl)) all0)), A3⟩
theorem d6_0 : decode jdk_40_method_36_code 0 = .ok (.getstatic 90, 3) := by decide +kernel
theorem d6_3 : decode jdk_40_method_36_code 3 = .ok (.areturn, 1) := by decide +kernel
def Q_lof (Z : State) (wE : Addr) (h0 : Heap) (n0 : Nat) (v : Option Value) (h : Heap) (L : List Loc) : Prop := v = some (.ref wE) ∧ Fr n0 L ∧ h = h0
theorem pn_java_util_List : plainName "java/util/List" = true := by first | (simp [plainName, overriddenIn]; done) | decide +kernel
theorem ef_lof (m : MethodId)   : entryFrame m #[] 0 = mkF m 0 #[] [] := by first | (simp [entryFrame, mkF, argsToLocals, Value.category]; done) | rfl
theorem lof (l : Launch) (Z : State) (a0 : Array Value) (hw : TW a0 Z) (ws : List Cond) (wE : Addr) (h0 : Heap) (n0 : Nat) (Z0 : n0 ≤ h0.size) (O : Old Z n0 h0) (SE : Sta Z Z.heap "java/util/ImmutableCollections" "EMPTY_LIST" "Ljava/util/ImmutableCollections$ListN;" (.ref wE)) :
    own_MF l Z MN29 jdk_40_method_36_code 0 (some (.object "java/util/List")) ws (own_R 0 0 0 0) #[] h0 (Q_lof Z wE h0 n0) := by
  have wd := @own_wd _ _ hw
  refine MetFree.of_bodySF (plainFor_of_name pn_java_util_List) hisR ?_
  intro p e s m args below meth c s₁ Bd hml0 hP hK
  obtain ⟨rfl, hZ, hh⟩ := hP
  have hx := Bd.exec
  have hby := Bd.bytes
  have hml : c.maxLocals = 0 := hml0
  have hown : s.vm.findClass "java/util/List" = some m.cls := findClass_of_methodNamed Bd.named
  have hnm := (name_of_methodNamed Bd.named Bd.method).1
  have X0 : Stand p l e (own_R 0 0 0 0) s m #[] below meth c s₁ [] 0 0 := Stand.of_body Bd
  have e0 : s₁.heap = h0 := by rw [← hh, Bd.state]; rfl
  have N0 := Fr.nil n0
  refine go_of (A := s₁.setTop (entryFrame m #[] 0)) (B := s₁.setTop (mkF m 0 #[] [])) (fun _ kk' => castTop (ef_lof m ) kk') ?_
  obtain ⟨T1, X1, e1, st1⟩ := getS2 X0 hx hZ hown (host := "") (Or.inl (wd 53 rfl)) Via.refl e0 (SE.ext O.2) (g := (mkF m 0 #[] [])) rfl (hb hby d6_0)
  refine go_of (B := (T1.setTop (mkF m 3 #[] [(.ref wE)]))) (st1) ?_
  refine go_end X1 (v := some (.ref wE)) (fun h => by rw [Bd.returns] at h; cases h) Bd.notSynchronized (by decide) (by decide) (Q := (Q_lof Z wE h0 n0)) ?_ (fun fs hr => own_retA X1 hx Bd.returns rfl rfl (hb hby d6_3) hr)
  unfold Q_lof
  try rw [e1]
  exact ⟨rfl, N0, rfl⟩
theorem d8_0 : decode jdk_31_method_11_code 0 = .ok (.aload_n 0, 1) := by decide +kernel
theorem d8_1 : decode jdk_31_method_11_code 1 = .ok (.ifnonnull 12, 3) := by decide +kernel
theorem d8_13 : decode jdk_31_method_11_code 13 = .ok (.aload_n 0, 1) := by decide +kernel
theorem d8_14 : decode jdk_31_method_11_code 14 = .ok (.areturn, 1) := by decide +kernel
def Q_rnn2 (Z : State) (a : Addr) (bb : Addr) (h0 : Heap) (n0 : Nat) (v : Option Value) (h : Heap) (L : List Loc) : Prop := v = some (.ref a) ∧ Fr n0 L ∧ h = h0
theorem pn_java_util_Objects : plainName "java/util/Objects" = true := by first | (simp [plainName, overriddenIn]; done) | decide +kernel
theorem ef_rnn2 (m : MethodId) (a : Addr) (bb : Addr)  : entryFrame m #[(.ref a), (.ref bb)] 2 = mkF m 0 #[.val (.ref a), .val (.ref bb)] [] := by first | (simp [entryFrame, mkF, argsToLocals, Value.category]; done) | rfl
theorem rnn2 (l : Launch) (Z : State) (a0 : Array Value) (hw : TW a0 Z) (ws : List Cond) (a : Addr) (bb : Addr) (h0 : Heap) (n0 : Nat) (Z0 : n0 ≤ h0.size)  :
    own_MF l Z MN33 jdk_31_method_11_code 2 (some (.object "java/lang/Object")) ws (own_R 0 0 0 0) #[(.ref a), (.ref bb)] h0 (Q_rnn2 Z a bb h0 n0) := by
  have wd := @own_wd _ _ hw
  refine MetFree.of_bodySF (plainFor_of_name pn_java_util_Objects) hisR ?_
  intro p e s m args below meth c s₁ Bd hml0 hP hK
  obtain ⟨rfl, hZ, hh⟩ := hP
  have hx := Bd.exec
  have hby := Bd.bytes
  have hml : c.maxLocals = 2 := hml0
  have hown : s.vm.findClass "java/util/Objects" = some m.cls := findClass_of_methodNamed Bd.named
  have hnm := (name_of_methodNamed Bd.named Bd.method).1
  have X0 : Stand p l e (own_R 0 0 0 0) s m #[(.ref a), (.ref bb)] below meth c s₁ [] 0 0 := Stand.of_body Bd
  have e0 : s₁.heap = h0 := by rw [← hh, Bd.state]; rfl
  have N0 := Fr.nil n0
  refine go_of (A := s₁.setTop (entryFrame m #[(.ref a), (.ref bb)] 2)) (B := s₁.setTop (mkF m 0 #[.val (.ref a), .val (.ref bb)] [])) (fun _ kk' => castTop (ef_rnn2 m a bb) kk') ?_
  refine go_of (B := (s₁.setTop (mkF m 14 #[.val (.ref a), .val (.ref bb)] [(.ref a)]))) (fun _ kk => XS.aloadN X0.here hx rfl (hb hby d8_0) rfl rfl (XS.ifnonnullYes X0.here hx rfl (pc0 := 1) (pc' := 13) rfl (hb hby d8_1) rfl (by decide) (by decide) (XS.aloadN X0.here hx rfl (hb hby d8_13) rfl rfl kk))) ?_
  refine go_end X0 (v := some (.ref a)) (fun h => by rw [Bd.returns] at h; cases h) Bd.notSynchronized (by decide) (by decide) (Q := (Q_rnn2 Z a bb h0 n0)) ?_ (fun fs hr => own_retA X0 hx Bd.returns rfl rfl (hb hby d8_14) hr)
  unfold Q_rnn2
  try rw [e0]
  exact ⟨rfl, N0, rfl⟩
theorem d29_0 : decode jdk_31_method_10_code 0 = .ok (.aload_n 0, 1) := by decide +kernel
theorem d29_1 : decode jdk_31_method_10_code 1 = .ok (.ifnonnull 11, 3) := by decide +kernel
theorem d29_12 : decode jdk_31_method_10_code 12 = .ok (.aload_n 0, 1) := by decide +kernel
theorem d29_13 : decode jdk_31_method_10_code 13 = .ok (.areturn, 1) := by decide +kernel
def Q_rnn1 (Z : State) (a : Addr) (h0 : Heap) (n0 : Nat) (v : Option Value) (h : Heap) (L : List Loc) : Prop := v = some (.ref a) ∧ Fr n0 L ∧ h = h0
theorem ef_rnn1 (m : MethodId) (a : Addr)  : entryFrame m #[(.ref a)] 1 = mkF m 0 #[.val (.ref a)] [] := by first | (simp [entryFrame, mkF, argsToLocals, Value.category]; done) | rfl
theorem rnn1 (l : Launch) (Z : State) (a0 : Array Value) (hw : TW a0 Z) (ws : List Cond) (a : Addr) (h0 : Heap) (n0 : Nat) (Z0 : n0 ≤ h0.size)  :
    own_MF l Z MN32 jdk_31_method_10_code 1 (some (.object "java/lang/Object")) ws (own_R 0 0 0 0) #[(.ref a)] h0 (Q_rnn1 Z a h0 n0) := by
  have wd := @own_wd _ _ hw
  refine MetFree.of_bodySF (plainFor_of_name pn_java_util_Objects) hisR ?_
  intro p e s m args below meth c s₁ Bd hml0 hP hK
  obtain ⟨rfl, hZ, hh⟩ := hP
  have hx := Bd.exec
  have hby := Bd.bytes
  have hml : c.maxLocals = 1 := hml0
  have hown : s.vm.findClass "java/util/Objects" = some m.cls := findClass_of_methodNamed Bd.named
  have hnm := (name_of_methodNamed Bd.named Bd.method).1
  have X0 : Stand p l e (own_R 0 0 0 0) s m #[(.ref a)] below meth c s₁ [] 0 0 := Stand.of_body Bd
  have e0 : s₁.heap = h0 := by rw [← hh, Bd.state]; rfl
  have N0 := Fr.nil n0
  refine go_of (A := s₁.setTop (entryFrame m #[(.ref a)] 1)) (B := s₁.setTop (mkF m 0 #[.val (.ref a)] [])) (fun _ kk' => castTop (ef_rnn1 m a) kk') ?_
  refine go_of (B := (s₁.setTop (mkF m 13 #[.val (.ref a)] [(.ref a)]))) (fun _ kk => XS.aloadN X0.here hx rfl (hb hby d29_0) rfl rfl (XS.ifnonnullYes X0.here hx rfl (pc0 := 1) (pc' := 12) rfl (hb hby d29_1) rfl (by decide) (by decide) (XS.aloadN X0.here hx rfl (hb hby d29_12) rfl rfl kk))) ?_
  refine go_end X0 (v := some (.ref a)) (fun h => by rw [Bd.returns] at h; cases h) Bd.notSynchronized (by decide) (by decide) (Q := (Q_rnn1 Z a h0 n0)) ?_ (fun fs hr => own_retA X0 hx Bd.returns rfl rfl (hb hby d29_13) hr)
  unfold Q_rnn1
  try rw [e0]
  exact ⟨rfl, N0, rfl⟩
theorem d10_0 : decode jdk_56_method_3_code 0 = .ok (.aload_n 0, 1) := by decide +kernel
theorem d10_1 : decode jdk_56_method_3_code 1 = .ok (.instanceof 10, 3) := by decide +kernel
theorem d10_4 : decode jdk_56_method_3_code 4 = .ok (.ifCond .ne 22, 3) := by decide +kernel
theorem d10_7 : decode jdk_56_method_3_code 7 = .ok (.aload_n 0, 1) := by decide +kernel
theorem d10_8 : decode jdk_56_method_3_code 8 = .ok (.instanceof 12, 3) := by decide +kernel
theorem d10_11 : decode jdk_56_method_3_code 11 = .ok (.ifCond .eq 20, 3) := by decide +kernel
theorem d10_14 : decode jdk_56_method_3_code 14 = .ok (.aload_n 0, 1) := by decide +kernel
theorem d10_15 : decode jdk_56_method_3_code 15 = .ok (.checkcast 12, 3) := by decide +kernel
theorem d10_18 : decode jdk_56_method_3_code 18 = .ok (.astore_n 1, 1) := by decide +kernel
theorem d10_19 : decode jdk_56_method_3_code 19 = .ok (.aload_n 1, 1) := by decide +kernel
theorem d10_20 : decode jdk_56_method_3_code 20 = .ok (.getfield 14, 3) := by decide +kernel
theorem d10_23 : decode jdk_56_method_3_code 23 = .ok (.ifCond .ne 8, 3) := by decide +kernel
theorem d10_26 : decode jdk_56_method_3_code 26 = .ok (.aload_n 0, 1) := by decide +kernel
theorem d10_27 : decode jdk_56_method_3_code 27 = .ok (.checkcast 18, 3) := by decide +kernel
theorem d10_30 : decode jdk_56_method_3_code 30 = .ok (.areturn, 1) := by decide +kernel
def Q_lcE (Z : State) (wE : Addr) (h0 : Heap) (n0 : Nat) (v : Option Value) (h : Heap) (L : List Loc) : Prop := v = some (.ref wE) ∧ Fr n0 L ∧ h = h0
theorem pn_java_util_ImmutableCollections : plainName "java/util/ImmutableCollections" = true := by first | (simp [plainName, overriddenIn]; done) | decide +kernel
theorem ef_lcE (m : MethodId) (wE : Addr)  : entryFrame m #[(.ref wE)] 2 = mkF m 0 #[.val (.ref wE), .unset] [] := by first | (simp [entryFrame, mkF, argsToLocals, Value.category]; done) | rfl
theorem lcE (l : Launch) (Z : State) (a0 : Array Value) (hw : TW a0 Z) (ws : List Cond) (wE : Addr) (h0 : Heap) (n0 : Nat) (Z0 : n0 ≤ h0.size) (O : Old Z n0 h0) (EE : Exa Z Z.heap wE "java/util/ImmutableCollections$ListN") (FE : Fld Z Z.heap wE "java/util/ImmutableCollections$ListN" "allowNulls" "Z" (.int 0)) :
    own_MF l Z MN19 jdk_56_method_3_code 2 (some (.object "java/util/List")) ws (own_R 0 0 0 0) #[(.ref wE)] h0 (Q_lcE Z wE h0 n0) := by
  have wd := @own_wd _ _ hw
  refine MetFree.of_bodySF (plainFor_of_name pn_java_util_ImmutableCollections) hisR ?_
  intro p e s m args below meth c s₁ Bd hml0 hP hK
  obtain ⟨rfl, hZ, hh⟩ := hP
  have hx := Bd.exec
  have hby := Bd.bytes
  have hml : c.maxLocals = 2 := hml0
  have hown : s.vm.findClass "java/util/ImmutableCollections" = some m.cls := findClass_of_methodNamed Bd.named
  have hnm := (name_of_methodNamed Bd.named Bd.method).1
  have X0 : Stand p l e (own_R 0 0 0 0) s m #[(.ref wE)] below meth c s₁ [] 0 0 := Stand.of_body Bd
  have e0 : s₁.heap = h0 := by rw [← hh, Bd.state]; rfl
  have N0 := Fr.nil n0
  refine go_of (A := s₁.setTop (entryFrame m #[(.ref wE)] 2)) (B := s₁.setTop (mkF m 0 #[.val (.ref wE), .unset] [])) (fun _ kk' => castTop (ef_lcE m wE) kk') ?_
  refine go_of (B := (s₁.setTop (mkF m 1 #[.val (.ref wE), .unset] [(.ref wE)]))) (fun _ kk => XS.aloadN X0.here hx rfl (hb hby d10_0) rfl rfl kk) ?_
  obtain ⟨T1, X1, e1, st1⟩ := instNo X0 hx hZ hown (wd 70 rfl) e0 (EE.ext O.2) (own_nsno (wd 71 rfl) (wd 200 rfl) (NS.step (wd 71 rfl) (NS.step (wd 72 rfl) (NS.step (wd 73 rfl) (NS.step (wd 74 rfl) (own_nsroot (wd 75 rfl) (wd 200 rfl) (by decide)) (by decide)) (by decide)) (by decide)) (by decide)) (by decide)) (g := (mkF m 1 #[.val (.ref wE), .unset] [(.ref wE)])) rfl rfl (hb hby d10_1)
  refine go_of (B := (T1.setTop (mkF m 4 #[.val (.ref wE), .unset] [(.int (0 : Int32))]))) (st1) ?_
  refine go_of (B := (T1.setTop (mkF m 8 #[.val (.ref wE), .unset] [(.ref wE)]))) (fun _ kk => XS.ifNo X1.here hx rfl (hb hby d10_4) rfl ((if0 _ _).trans (teq (by decide : (0 : Int32) = (0 : Int32))).2) (XS.aloadN X1.here hx rfl (hb hby d10_7) rfl rfl kk)) ?_
  obtain ⟨T2, X2, e2, st2⟩ := instY X1 hx hZ hown (wd 76 rfl) e1 (Ins.self (EE.ext O.2)) (g := (mkF m 8 #[.val (.ref wE), .unset] [(.ref wE)])) rfl rfl (hb hby d10_8)
  refine go_of (B := (T2.setTop (mkF m 11 #[.val (.ref wE), .unset] [(.int (1 : Int32))]))) (st2) ?_
  refine go_of (B := (T2.setTop (mkF m 15 #[.val (.ref wE), .unset] [(.ref wE)]))) (fun _ kk => XS.ifNo X2.here hx rfl (hb hby d10_11) rfl ((if0 _ _).trans (feq (by decide : ¬ ((1 : Int32) = (0 : Int32)))).1) (XS.aloadN X2.here hx rfl (hb hby d10_14) rfl rfl kk)) ?_
  obtain ⟨T3, X3, e3, st3⟩ := castY X2 hx hZ hown (wd 76 rfl) e2 (Ins.self (EE.ext O.2)) (g := (mkF m 15 #[.val (.ref wE), .unset] [(.ref wE)])) rfl rfl (hb hby d10_15)
  refine go_of (B := (T3.setTop (mkF m 18 #[.val (.ref wE), .unset] [(.ref wE)]))) (st3) ?_
  refine go_of (B := (T3.setTop (mkF m 20 #[.val (.ref wE), .val (.ref wE)] [(.ref wE)]))) (fun _ kk => XS.astoreN X3.here hx rfl (hb hby d10_18) rfl rfl rfl (XS.aloadN X3.here hx rfl (hb hby d10_19) rfl rfl kk)) ?_
  obtain ⟨T4, X4, e4, st4⟩ := getF X3 hx hZ hown (Or.inr (wd 78 rfl)) Via.refl e3 (FE.ext O.2) (g := (mkF m 20 #[.val (.ref wE), .val (.ref wE)] [(.ref wE)])) rfl rfl (hb hby d10_20)
  refine go_of (B := (T4.setTop (mkF m 23 #[.val (.ref wE), .val (.ref wE)] [(.int (0 : Int32))]))) (st4) ?_
  refine go_of (B := (T4.setTop (mkF m 27 #[.val (.ref wE), .val (.ref wE)] [(.ref wE)]))) (fun _ kk => XS.ifNo X4.here hx rfl (hb hby d10_23) rfl ((if0 _ _).trans (teq (by decide : (0 : Int32) = (0 : Int32))).2) (XS.aloadN X4.here hx rfl (hb hby d10_26) rfl rfl kk)) ?_
  obtain ⟨T5, X5, e5, st5⟩ := castY X4 hx hZ hown (wd 80 rfl) e4 (Ins.of_exa (EE.ext O.2) (wd 81 rfl)) (g := (mkF m 27 #[.val (.ref wE), .val (.ref wE)] [(.ref wE)])) rfl rfl (hb hby d10_27)
  refine go_of (B := (T5.setTop (mkF m 30 #[.val (.ref wE), .val (.ref wE)] [(.ref wE)]))) (st5) ?_
  refine go_end X5 (v := some (.ref wE)) (fun h => by rw [Bd.returns] at h; cases h) Bd.notSynchronized (by decide) (by decide) (Q := (Q_lcE Z wE h0 n0)) ?_ (fun fs hr => own_retA X5 hx Bd.returns rfl rfl (hb hby d10_30) hr)
  unfold Q_lcE
  try rw [e5]
  exact ⟨rfl, N0, rfl⟩
theorem d9_0 : decode jdk_40_method_48_code 0 = .ok (.aload_n 0, 1) := by decide +kernel
theorem d9_1 : decode jdk_40_method_48_code 1 = .ok (.invokestatic 112, 3) := by decide +kernel
theorem pd__Ljava_util_Collection__Ljava_util_List_ : parseMethodDescriptor "(Ljava/util/Collection;)Ljava/util/List;" = some ⟨[(.object "java/util/Collection")], some (.object "java/util/List")⟩ := by decide +kernel
theorem d9_4 : decode jdk_40_method_48_code 4 = .ok (.areturn, 1) := by decide +kernel
def Q_coE (Z : State) (wE : Addr) (h0 : Heap) (n0 : Nat) (v : Option Value) (h : Heap) (L : List Loc) : Prop := v = some (.ref wE) ∧ Fr n0 L ∧ h = h0
theorem ef_coE (m : MethodId) (wE : Addr)  : entryFrame m #[(.ref wE)] 1 = mkF m 0 #[.val (.ref wE)] [] := by first | (simp [entryFrame, mkF, argsToLocals, Value.category]; done) | rfl
theorem coE (l : Launch) (Z : State) (a0 : Array Value) (hw : TW a0 Z) (ws : List Cond) (wE : Addr) (h0 : Heap) (n0 : Nat) (Z0 : n0 ≤ h0.size) (O : Old Z n0 h0) (EE : Exa Z Z.heap wE "java/util/ImmutableCollections$ListN") (FE : Fld Z Z.heap wE "java/util/ImmutableCollections$ListN" "allowNulls" "Z" (.int 0)) :
    own_MF l Z MN26 jdk_40_method_48_code 1 (some (.object "java/util/List")) ws (own_R 1 0 0 13) #[(.ref wE)] h0 (Q_coE Z wE h0 n0) := by
  have wd := @own_wd _ _ hw
  refine MetFree.of_bodySF (plainFor_of_name pn_java_util_List) hisR ?_
  intro p e s m args below meth c s₁ Bd hml0 hP hK
  obtain ⟨rfl, hZ, hh⟩ := hP
  have hx := Bd.exec
  have hby := Bd.bytes
  have hml : c.maxLocals = 1 := hml0
  have hown : s.vm.findClass "java/util/List" = some m.cls := findClass_of_methodNamed Bd.named
  have hnm := (name_of_methodNamed Bd.named Bd.method).1
  have X0 : Stand p l e (own_R 1 0 0 13) s m #[(.ref wE)] below meth c s₁ [] 0 0 := Stand.of_body Bd
  have e0 : s₁.heap = h0 := by rw [← hh, Bd.state]; rfl
  have N0 := Fr.nil n0
  refine go_of (A := s₁.setTop (entryFrame m #[(.ref wE)] 1)) (B := s₁.setTop (mkF m 0 #[.val (.ref wE)] [])) (fun _ kk' => castTop (ef_coE m wE) kk') ?_
  refine go_of (B := (s₁.setTop (mkF m 1 #[.val (.ref wE)] [(.ref wE)]))) (fun _ kk => XS.aloadN X0.here hx rfl (hb hby d9_0) rfl rfl kk) ?_
  obtain ⟨_, _, ⟨T1, L1, k1, n1⟩, -, X1, ⟨Lc1, hQ1, l1, y1, z1⟩, st1⟩ := Jvm.LawKit.callS X0 hx (y := MN19) hown (mvT hZ (wd 67 rfl)) (mvT hZ (wd 68 rfl)) (mvT hZ (wd 54 rfl)) (mvT hZ (wd 69 rfl)) (by decide) (backOf (W := 0) (lcE l Z a0 hw [] wE h0 n0 Z0 O EE FE) hZ (wd 69 rfl) (wd 54 rfl) (by decide) (by decide)) (g := (mkF m 1 #[.val (.ref wE)] [(.ref wE)])) rfl (by rw [hml]; rfl) (argsL := [(.ref wE)]) (rest := []) (lenOf pd__Ljava_util_Collection__Ljava_util_List_ rfl) rfl (Nat.le_of_eq rfl) (hb hby d9_1) (fun _ _ => ⟨rfl, e0, (by decide : 0 + 0 ≤ _), (by decide : 0 + 0 ≤ _)⟩)
  dsimp only [Pt.U, Pt.locs, Pt.cells, Pt.slots] at X1 l1 y1 z1 st1 hQ1
  subst l1 y1 z1
  obtain ⟨rfl, N1q, e1⟩ := hQ1
  have N1 := Fr.app N0 N1q
  refine go_of (B := (T1.setTop (mkF m 4 #[.val (.ref wE)] [(.ref wE)]))) (st1) ?_
  refine go_end X1 (v := some (.ref wE)) (fun h => by rw [Bd.returns] at h; cases h) Bd.notSynchronized (by decide) (by decide) (Q := (Q_coE Z wE h0 n0)) ?_ (fun fs hr => own_retA X1 hx Bd.returns rfl rfl (hb hby d9_4) hr)
  unfold Q_coE
  try rw [e1]
  exact ⟨rfl, N1, rfl⟩
theorem d7_0 : decode prog_27_method_1_code 0 = .ok (.aload_n 0, 1) := by decide +kernel
theorem d7_1 : decode prog_27_method_1_code 1 = .ok (.invokespecial 1, 3) := by decide +kernel
theorem d7_4 : decode prog_27_method_1_code 4 = .ok (.aload_n 1, 1) := by decide +kernel
theorem d7_5 : decode prog_27_method_1_code 5 = .ok (.ldc 7, 2) := by decide +kernel
theorem d7_7 : decode prog_27_method_1_code 7 = .ok (.invokestatic 9, 3) := by decide +kernel
theorem pd__Ljava_lang_Object_Ljava_lang_String__Ljava_lang_Object_ : parseMethodDescriptor "(Ljava/lang/Object;Ljava/lang/String;)Ljava/lang/Object;" = some ⟨[(.object "java/lang/Object"), (.object "java/lang/String")], some (.object "java/lang/Object")⟩ := by decide +kernel
theorem d7_10 : decode prog_27_method_1_code 10 = .ok (.pop, 1) := by decide +kernel
theorem d7_11 : decode prog_27_method_1_code 11 = .ok (.aload 4, 2) := by decide +kernel
theorem d7_13 : decode prog_27_method_1_code 13 = .ok (.invokestatic 15, 3) := by decide +kernel
theorem d7_16 : decode prog_27_method_1_code 16 = .ok (.astore 4, 2) := by decide +kernel
theorem d7_18 : decode prog_27_method_1_code 18 = .ok (.aload_n 0, 1) := by decide +kernel
theorem d7_19 : decode prog_27_method_1_code 19 = .ok (.aload_n 1, 1) := by decide +kernel
theorem d7_20 : decode prog_27_method_1_code 20 = .ok (.putfield 21, 3) := by decide +kernel
theorem d7_23 : decode prog_27_method_1_code 23 = .ok (.aload_n 0, 1) := by decide +kernel
theorem d7_24 : decode prog_27_method_1_code 24 = .ok (.aload_n 2, 1) := by decide +kernel
theorem d7_25 : decode prog_27_method_1_code 25 = .ok (.putfield 26, 3) := by decide +kernel
theorem d7_28 : decode prog_27_method_1_code 28 = .ok (.aload_n 0, 1) := by decide +kernel
theorem d7_29 : decode prog_27_method_1_code 29 = .ok (.aload_n 3, 1) := by decide +kernel
theorem d7_30 : decode prog_27_method_1_code 30 = .ok (.putfield 29, 3) := by decide +kernel
theorem d7_33 : decode prog_27_method_1_code 33 = .ok (.aload_n 0, 1) := by decide +kernel
theorem d7_34 : decode prog_27_method_1_code 34 = .ok (.aload 4, 2) := by decide +kernel
theorem d7_36 : decode prog_27_method_1_code 36 = .ok (.putfield 33, 3) := by decide +kernel
theorem d7_39 : decode prog_27_method_1_code 39 = .ok (.return_, 1) := by decide +kernel
def Q_ds4n (Z : State) (a : Addr) (ky : Addr) (wE : Addr) (v0 : Value) (v1 : Value) (v2 : Value) (v3 : Value) (h0 : Heap) (n0 : Nat) (v : Option Value) (h : Heap) (L : List Loc) : Prop := v = none ∧ Fr n0 L ∧ Keep h0 h [a] ∧ Exa Z h a "com/example/wombat/wombat/rules/Descriptor" ∧ Fld Z h a "com/example/wombat/wombat/rules/Descriptor" "rateLimit" "Lcom/example/wombat/wombat/rules/RateLimit;" .null
theorem pn_com_example_wombat_wombat_rules_Descriptor : plainName "com/example/wombat/wombat/rules/Descriptor" = true := by first | (simp [plainName, overriddenIn]; done) | decide +kernel
theorem ef_ds4n (m : MethodId) (a : Addr) (ky : Addr) (wE : Addr)  : entryFrame m #[(.ref a), (.ref ky), .null, .null, (.ref wE)] 5 = mkF m 0 #[.val (.ref a), .val (.ref ky), .val .null, .val .null, .val (.ref wE)] [] := by first | (simp [entryFrame, mkF, argsToLocals, Value.category]; done) | rfl
theorem ds4n (l : Launch) (Z : State) (a0 : Array Value) (hw : TW a0 Z) (ws : List Cond) (a : Addr) (ky : Addr) (wE : Addr) (v0 : Value) (v1 : Value) (v2 : Value) (v3 : Value) (h0 : Heap) (n0 : Nat) (Z0 : n0 ≤ h0.size) (O : Old Z n0 h0) (EE : Exa Z Z.heap wE "java/util/ImmutableCollections$ListN") (FE : Fld Z Z.heap wE "java/util/ImmutableCollections$ListN" "allowNulls" "Z" (.int 0)) (Ea : Exa Z h0 a "com/example/wombat/wombat/rules/Descriptor") (Fa0 : Fld Z h0 a "com/example/wombat/wombat/rules/Descriptor" "key" "Ljava/lang/String;" v0) (Fa1 : Fld Z h0 a "com/example/wombat/wombat/rules/Descriptor" "value" "Ljava/lang/String;" v1) (Fa2 : Fld Z h0 a "com/example/wombat/wombat/rules/Descriptor" "rateLimit" "Lcom/example/wombat/wombat/rules/RateLimit;" v2) (Fa3 : Fld Z h0 a "com/example/wombat/wombat/rules/Descriptor" "descriptors" "Ljava/util/List;" v3) (g : n0 ≤ a) :
    own_MFW l Z MN1 prog_27_method_1_code 5 none ws (own_R 2 2 16 25) #[(.ref a), (.ref ky), .null, .null, (.ref wE)] h0 (Q_ds4n Z a ky wE v0 v1 v2 v3 h0 n0) := by
  have wd := @own_wd _ _ hw
  refine MetFree.of_bodySF (plainFor_of_name pn_com_example_wombat_wombat_rules_Descriptor) hisR ?_
  intro p e s m args below meth c s₁ Bd hml0 hP hK
  obtain ⟨rfl, hZ, hh⟩ := hP
  have hx := Bd.exec
  have hby := Bd.bytes
  have hml : c.maxLocals = 5 := hml0
  have hown : s.vm.findClass "com/example/wombat/wombat/rules/Descriptor" = some m.cls := findClass_of_methodNamed Bd.named
  have hnm := (name_of_methodNamed Bd.named Bd.method).1
  have X0 : Stand p l e (own_R 2 2 16 25) (s.setVm s.vm) m #[(.ref a), (.ref ky), .null, .null, (.ref wE)] below meth c s₁ [] 0 0 := Stand.of_body Bd
  have e0 : s₁.heap = h0 := by rw [← hh, Bd.state]; rfl
  have N0 := Fr.nil n0
  have hS : s.Since s.vm 0 := (State.WarmedH.refl s).since 0
  have lta := own_nlt (Ea.lt)
  refine go_of (A := s₁.setTop (entryFrame m #[(.ref a), (.ref ky), .null, .null, (.ref wE)] 5)) (B := s₁.setTop (mkF m 0 #[.val (.ref a), .val (.ref ky), .val .null, .val .null, .val (.ref wE)] [])) (fun _ kk' => castTop (ef_ds4n m a ky wE) kk') ?_
  refine go_of (B := (s₁.setTop (mkF m 1 #[.val (.ref a), .val (.ref ky), .val .null, .val .null, .val (.ref wE)] [(.ref a)]))) (fun _ kk => XS.aloadN X0.here hx rfl (hb hby d7_0) rfl rfl kk) ?_
  obtain ⟨_, _, ⟨T1, L1, k1, n1⟩, -, X1, ⟨Lc1, hQ1, l1, y1, z1⟩, st1⟩ := X0.specialBack hx (y := MN8) rfl hown (mvT hZ (wd 58 rfl)) (mvT hZ (wd 16 rfl)) (mvT hZ (wd 19 rfl)) (by decide) (backOf (W := 0) (rm3 l Z a0 hw [] a h0 n0 (by omega)) hZ (wd 19 rfl) (wd 18 rfl) (by decide) (by decide)) (g := (mkF m 1 #[.val (.ref a), .val (.ref ky), .val .null, .val .null, .val (.ref wE)] [(.ref a)])) rfl (by rw [hml]; rfl) (Steps.refl _) (a := a) (argsL := []) (rest := []) (lenOf pd___V rfl) rfl (Nat.le_of_eq rfl) (hb hby d7_1) (fun _ _ => ⟨rfl, e0, (by decide : 0 + 0 ≤ _), (by decide : 0 + 0 ≤ _)⟩)
  dsimp only [Pt.U, Pt.locs, Pt.cells, Pt.slots] at X1 l1 y1 z1 st1 hQ1
  subst l1 y1 z1
  obtain ⟨rfl, N1q, e1⟩ := hQ1
  have N1 := Fr.app N0 N1q
  refine go_tr (B := (T1.setTop (mkF m 4 #[.val (.ref a), .val (.ref ky), .val .null, .val .null, .val (.ref wE)] []))) (st1) ?_
  refine go_of (B := (T1.setTop (mkF m 5 #[.val (.ref a), .val (.ref ky), .val .null, .val .null, .val (.ref wE)] [(.ref ky)]))) (fun _ kk => XS.aloadN X1.here hx rfl (hb hby d7_4) rfl rfl kk) ?_
  obtain ⟨b2, T2, h2, k2, X2, e2, E2, hS, hk2, hZ, hown, st2⟩ := ldcS X1 hx hZ hown (wd 59 rfl) (own_wS hw) e1 hS (by first | omega | exact own_ne (by omega) | exact own_le (by omega)) (g := (mkF m 5 #[.val (.ref a), .val (.ref ky), .val .null, .val .null, .val (.ref wE)] [(.ref ky)])) rfl (hb hby d7_5) (n := 12) (by decide) (by decide) (by decide) (by decide)
  have sz2 := E2.1
  refine go_of (B := (T2.setTop (mkF m 7 #[.val (.ref a), .val (.ref ky), .val .null, .val .null, .val (.ref wE)] [(.ref b2), (.ref ky)]))) (st2) ?_
  obtain ⟨_, _, ⟨T3, L3, k3, n3⟩, -, X3, ⟨Lc3, hQ3, l3, y3, z3⟩, st3⟩ := Jvm.LawKit.callS X2 hx (y := MN33) hown (mvT hZ (wd 60 rfl)) (mvT hZ (wd 61 rfl)) (mvT hZ (wd 62 rfl)) (mvT hZ (wd 63 rfl)) (by decide) (backOf (W := 0) (rnn2 l Z a0 hw [] ky b2 h2 n0 (by omega)) hZ (wd 63 rfl) (wd 62 rfl) (by decide) (by decide)) (g := (mkF m 7 #[.val (.ref a), .val (.ref ky), .val .null, .val .null, .val (.ref wE)] [(.ref b2), (.ref ky)])) rfl (by rw [hml]; rfl) (argsL := [(.ref ky), (.ref b2)]) (rest := []) (lenOf pd__Ljava_lang_Object_Ljava_lang_String__Ljava_lang_Object_ rfl) rfl (Nat.le_of_eq rfl) (hb hby d7_7) (fun _ _ => ⟨rfl, e2, (by decide : 2 + 0 ≤ _), (by decide : 16 + 0 ≤ _)⟩)
  dsimp only [Pt.U, Pt.locs, Pt.cells, Pt.slots] at X3 l3 y3 z3 st3 hQ3
  subst l3 y3 z3
  obtain ⟨rfl, N3q, e3⟩ := hQ3
  have N3 := Fr.app N1 N3q
  refine go_of (B := (T3.setTop (mkF m 10 #[.val (.ref a), .val (.ref ky), .val .null, .val .null, .val (.ref wE)] [(.ref ky)]))) (st3) ?_
  refine go_of (B := (T3.setTop (mkF m 13 #[.val (.ref a), .val (.ref ky), .val .null, .val .null, .val (.ref wE)] [(.ref wE)]))) (fun _ kk => XS.pop X3.here hx rfl (hb hby d7_10) rfl rfl (XS.aload X3.here hx rfl (hb hby d7_11) rfl rfl kk)) ?_
  have cf_4 := (O.ext E2)
  obtain ⟨_, _, ⟨T5, L5, k5, n5⟩, -, X5, ⟨Lc5, hQ5, l5, y5, z5⟩, st5⟩ := Jvm.LawKit.callS X3 hx (y := MN26) hown (mvT hZ (wd 64 rfl)) (mvT hZ (wd 65 rfl)) (mvT hZ (wd 51 rfl)) (mvT hZ (wd 66 rfl)) (by decide) (backOf (W := 0) (coE l Z a0 hw [] wE h2 n0 (by omega) cf_4 EE FE) hZ (wd 66 rfl) (wd 51 rfl) (by decide) (by decide)) (g := (mkF m 13 #[.val (.ref a), .val (.ref ky), .val .null, .val .null, .val (.ref wE)] [(.ref wE)])) rfl (by rw [hml]; rfl) (argsL := [(.ref wE)]) (rest := []) (lenOf pd__Ljava_util_Collection__Ljava_util_List_ rfl) rfl (Nat.le_of_eq rfl) (hb hby d7_13) (fun _ _ => ⟨rfl, e3, (by decide : 2 + 0 ≤ _), (by decide : 16 + 0 ≤ _)⟩)
  dsimp only [Pt.U, Pt.locs, Pt.cells, Pt.slots] at X5 l5 y5 z5 st5 hQ5
  subst l5 y5 z5
  obtain ⟨rfl, N5q, e5⟩ := hQ5
  have N5 := Fr.app N3 N5q
  refine go_of (B := (T5.setTop (mkF m 16 #[.val (.ref a), .val (.ref ky), .val .null, .val .null, .val (.ref wE)] [(.ref wE)]))) (st5) ?_
  refine go_of (B := (T5.setTop (mkF m 20 #[.val (.ref a), .val (.ref ky), .val .null, .val .null, .val (.ref wE)] [(.ref ky), (.ref a)]))) (fun _ kk => XS.astore X5.here hx rfl (hb hby d7_16) rfl rfl rfl (XS.aloadN X5.here hx rfl (hb hby d7_18) rfl rfl (XS.aloadN X5.here hx rfl (hb hby d7_19) rfl rfl kk))) ?_
  have cf_6 := (Ea.ext E2)
  have cf_7 := (Fa0.ext E2)
  obtain ⟨T8, h8, X8, e8, W8, st8⟩ := putF X5 hx hZ hown (host := "") (Or.inl (wd 82 rfl)) Via.refl e5 cf_7 cf_6 (Or.inr ⟨(wd 83 rfl), rfl, hnm⟩) (wd 36 rfl) (ty := (.object "java/lang/String")) (by decide) rfl rfl (g := (mkF m 20 #[.val (.ref a), .val (.ref ky), .val .null, .val .null, .val (.ref wE)] [(.ref ky), (.ref a)])) rfl rfl (hb hby d7_20)
  have sz8 := W8.size
  have Fw8 := cf_7.same W8
  have N8 := Fr.snoc X8 N5 (g : n0 ≤ a)
  refine go_of (B := (T8.setTop (mkF m 23 #[.val (.ref a), .val (.ref ky), .val .null, .val .null, .val (.ref wE)] []))) (st8) ?_
  refine go_of (B := (T8.setTop (mkF m 25 #[.val (.ref a), .val (.ref ky), .val .null, .val .null, .val (.ref wE)] [.null, (.ref a)]))) (fun _ kk => XS.aloadN X8.here hx rfl (hb hby d7_23) rfl rfl (XS.aloadN X8.here hx rfl (hb hby d7_24) rfl rfl kk)) ?_
  have cf_9 := (cf_6.wr W8)
  have cf_10 := ((Fa1.ext E2).other W8 (Or.inr (slot_ne (Or.inr (wd 85 rfl)) (Or.inr (wd 83 rfl)) (by decide) (t := (.object "java/lang/String")) (t' := (.object "java/lang/String")) (by decide) (by decide))))
  obtain ⟨T11, h11, X11, e11, W11, st11⟩ := putF X8 hx hZ hown (host := "") (Or.inl (wd 84 rfl)) Via.refl e8 cf_10 cf_9 (Or.inr ⟨(wd 85 rfl), rfl, hnm⟩) (wd 36 rfl) (ty := (.object "java/lang/String")) (by decide) rfl rfl (g := (mkF m 25 #[.val (.ref a), .val (.ref ky), .val .null, .val .null, .val (.ref wE)] [.null, (.ref a)])) rfl rfl (hb hby d7_25)
  have sz11 := W11.size
  have Fw11 := cf_10.same W11
  have N11 := Fr.snoc X11 N8 (g : n0 ≤ a)
  refine go_of (B := (T11.setTop (mkF m 28 #[.val (.ref a), .val (.ref ky), .val .null, .val .null, .val (.ref wE)] []))) (st11) ?_
  refine go_of (B := (T11.setTop (mkF m 30 #[.val (.ref a), .val (.ref ky), .val .null, .val .null, .val (.ref wE)] [.null, (.ref a)]))) (fun _ kk => XS.aloadN X11.here hx rfl (hb hby d7_28) rfl rfl (XS.aloadN X11.here hx rfl (hb hby d7_29) rfl rfl kk)) ?_
  have cf_12 := (cf_9.wr W11)
  have cf_13 := (((Fa2.ext E2).other W8 (Or.inr (slot_ne (Or.inr (wd 87 rfl)) (Or.inr (wd 83 rfl)) (by decide) (t := (.object "com/example/wombat/wombat/rules/RateLimit")) (t' := (.object "java/lang/String")) (by decide) (by decide)))).other W11 (Or.inr (slot_ne (Or.inr (wd 87 rfl)) (Or.inr (wd 85 rfl)) (by decide) (t := (.object "com/example/wombat/wombat/rules/RateLimit")) (t' := (.object "java/lang/String")) (by decide) (by decide))))
  obtain ⟨T14, h14, X14, e14, W14, st14⟩ := putF X11 hx hZ hown (host := "") (Or.inl (wd 86 rfl)) Via.refl e11 cf_13 cf_12 (Or.inr ⟨(wd 87 rfl), rfl, hnm⟩) (wd 36 rfl) (ty := (.object "com/example/wombat/wombat/rules/RateLimit")) (by decide) rfl rfl (g := (mkF m 30 #[.val (.ref a), .val (.ref ky), .val .null, .val .null, .val (.ref wE)] [.null, (.ref a)])) rfl rfl (hb hby d7_30)
  have sz14 := W14.size
  have Fw14 := cf_13.same W14
  have N14 := Fr.snoc X14 N11 (g : n0 ≤ a)
  refine go_of (B := (T14.setTop (mkF m 33 #[.val (.ref a), .val (.ref ky), .val .null, .val .null, .val (.ref wE)] []))) (st14) ?_
  refine go_of (B := (T14.setTop (mkF m 36 #[.val (.ref a), .val (.ref ky), .val .null, .val .null, .val (.ref wE)] [(.ref wE), (.ref a)]))) (fun _ kk => XS.aloadN X14.here hx rfl (hb hby d7_33) rfl rfl (XS.aload X14.here hx rfl (hb hby d7_34) rfl rfl kk)) ?_
  have cf_15 := (cf_12.wr W14)
  have cf_16 := ((((Fa3.ext E2).other W8 (Or.inr (slot_ne (Or.inr (wd 89 rfl)) (Or.inr (wd 83 rfl)) (by decide) (t := (.object "java/util/List")) (t' := (.object "java/lang/String")) (by decide) (by decide)))).other W11 (Or.inr (slot_ne (Or.inr (wd 89 rfl)) (Or.inr (wd 85 rfl)) (by decide) (t := (.object "java/util/List")) (t' := (.object "java/lang/String")) (by decide) (by decide)))).other W14 (Or.inr (slot_ne (Or.inr (wd 89 rfl)) (Or.inr (wd 87 rfl)) (by decide) (t := (.object "java/util/List")) (t' := (.object "com/example/wombat/wombat/rules/RateLimit")) (by decide) (by decide))))
  obtain ⟨T17, h17, X17, e17, W17, st17⟩ := putF X14 hx hZ hown (host := "") (Or.inl (wd 88 rfl)) Via.refl e14 cf_16 cf_15 (Or.inr ⟨(wd 89 rfl), rfl, hnm⟩) (wd 36 rfl) (ty := (.object "java/util/List")) (by decide) rfl rfl (g := (mkF m 36 #[.val (.ref a), .val (.ref ky), .val .null, .val .null, .val (.ref wE)] [(.ref wE), (.ref a)])) rfl rfl (hb hby d7_36)
  have sz17 := W17.size
  have Fw17 := cf_16.same W17
  have N17 := Fr.snoc X17 N14 (g : n0 ≤ a)
  refine go_of (B := (T17.setTop (mkF m 39 #[.val (.ref a), .val (.ref ky), .val .null, .val .null, .val (.ref wE)] []))) (st17) ?_
  have cf_18 := (cf_15.wr W17)
  have cf_19 := (Fw14.other W17 (Or.inr (slot_ne (Or.inr (wd 87 rfl)) (Or.inr (wd 89 rfl)) (by decide) (t := (.object "com/example/wombat/wombat/rules/RateLimit")) (t' := (.object "java/util/List")) (by decide) (by decide))))
  refine go_endW X17 hS (by rw [e17]; omega) (v := none) (fun _ => rfl) Bd.notSynchronized (by decide) (by decide) (Q := (Q_ds4n Z a ky wE v0 v1 v2 v3 h0 n0)) ?_ (fun fs hr => X17.returnOut hx Bd.returns (hb hby d7_39) hr)
  unfold Q_ds4n
  try rw [e17]
  exact ⟨rfl, N17, ((((((Keep.refl h0 [a]).ext E2).wr W8 (Or.inl (List.mem_of_getElem? (i := 0) rfl))).wr W11 (Or.inl (List.mem_of_getElem? (i := 0) rfl))).wr W14 (Or.inl (List.mem_of_getElem? (i := 0) rfl))).wr W17 (Or.inl (List.mem_of_getElem? (i := 0) rfl))), cf_18, cf_19⟩
theorem d5_0 : decode prog_27_method_2_code 0 = .ok (.aload_n 0, 1) := by decide +kernel
theorem d5_1 : decode prog_27_method_2_code 1 = .ok (.aload_n 1, 1) := by decide +kernel
theorem d5_2 : decode prog_27_method_2_code 2 = .ok (.aconst_null, 1) := by decide +kernel
theorem d5_3 : decode prog_27_method_2_code 3 = .ok (.aload_n 2, 1) := by decide +kernel
theorem d5_4 : decode prog_27_method_2_code 4 = .ok (.invokestatic 37, 3) := by decide +kernel
theorem pd___Ljava_util_List_ : parseMethodDescriptor "()Ljava/util/List;" = some ⟨[], some (.object "java/util/List")⟩ := by decide +kernel
theorem d5_7 : decode prog_27_method_2_code 7 = .ok (.invokespecial 41, 3) := by decide +kernel
theorem pd__Ljava_lang_String_Ljava_lang_String_Lcom_example_wombat_wombat_rules_RateLimit_Ljava_util_List__V : parseMethodDescriptor "(Ljava/lang/String;Ljava/lang/String;Lcom/example/wombat/wombat/rules/RateLimit;Ljava/util/List;)V" = some ⟨[(.object "java/lang/String"), (.object "java/lang/String"), (.object "com/example/wombat/wombat/rules/RateLimit"), (.object "java/util/List")], none⟩ := by decide +kernel
theorem d5_10 : decode prog_27_method_2_code 10 = .ok (.return_, 1) := by decide +kernel
def Q_ds2n (Z : State) (a : Addr) (ky : Addr) (wE : Addr) (v0 : Value) (v1 : Value) (v2 : Value) (v3 : Value) (h0 : Heap) (n0 : Nat) (v : Option Value) (h : Heap) (L : List Loc) : Prop := v = none ∧ Fr n0 L ∧ Keep h0 h [a] ∧ Exa Z h a "com/example/wombat/wombat/rules/Descriptor" ∧ Fld Z h a "com/example/wombat/wombat/rules/Descriptor" "rateLimit" "Lcom/example/wombat/wombat/rules/RateLimit;" .null
theorem ef_ds2n (m : MethodId) (a : Addr) (ky : Addr)  : entryFrame m #[(.ref a), (.ref ky), .null] 3 = mkF m 0 #[.val (.ref a), .val (.ref ky), .val .null] [] := by first | (simp [entryFrame, mkF, argsToLocals, Value.category]; done) | rfl
theorem ds2n (l : Launch) (Z : State) (a0 : Array Value) (hw : TW a0 Z) (ws : List Cond) (a : Addr) (ky : Addr) (wE : Addr) (v0 : Value) (v1 : Value) (v2 : Value) (v3 : Value) (h0 : Heap) (n0 : Nat) (Z0 : n0 ≤ h0.size) (O : Old Z n0 h0) (SE : Sta Z Z.heap "java/util/ImmutableCollections" "EMPTY_LIST" "Ljava/util/ImmutableCollections$ListN;" (.ref wE)) (EE : Exa Z Z.heap wE "java/util/ImmutableCollections$ListN") (FE : Fld Z Z.heap wE "java/util/ImmutableCollections$ListN" "allowNulls" "Z" (.int 0)) (Ea : Exa Z h0 a "com/example/wombat/wombat/rules/Descriptor") (Fa0 : Fld Z h0 a "com/example/wombat/wombat/rules/Descriptor" "key" "Ljava/lang/String;" v0) (Fa1 : Fld Z h0 a "com/example/wombat/wombat/rules/Descriptor" "value" "Ljava/lang/String;" v1) (Fa2 : Fld Z h0 a "com/example/wombat/wombat/rules/Descriptor" "rateLimit" "Lcom/example/wombat/wombat/rules/RateLimit;" v2) (Fa3 : Fld Z h0 a "com/example/wombat/wombat/rules/Descriptor" "descriptors" "Ljava/util/List;" v3) (g : n0 ≤ a) :
    own_MFW l Z MN0 prog_27_method_2_code 3 none ws (own_R 3 2 16 41) #[(.ref a), (.ref ky), .null] h0 (Q_ds2n Z a ky wE v0 v1 v2 v3 h0 n0) := by
  have wd := @own_wd _ _ hw
  refine MetFree.of_bodySF (plainFor_of_name pn_com_example_wombat_wombat_rules_Descriptor) hisR ?_
  intro p e s m args below meth c s₁ Bd hml0 hP hK
  obtain ⟨rfl, hZ, hh⟩ := hP
  have hx := Bd.exec
  have hby := Bd.bytes
  have hml : c.maxLocals = 3 := hml0
  have hown : s.vm.findClass "com/example/wombat/wombat/rules/Descriptor" = some m.cls := findClass_of_methodNamed Bd.named
  have hnm := (name_of_methodNamed Bd.named Bd.method).1
  have X0 : Stand p l e (own_R 3 2 16 41) (s.setVm s.vm) m #[(.ref a), (.ref ky), .null] below meth c s₁ [] 0 0 := Stand.of_body Bd
  have e0 : s₁.heap = h0 := by rw [← hh, Bd.state]; rfl
  have N0 := Fr.nil n0
  have hS : s.Since s.vm 0 := (State.WarmedH.refl s).since 0
  have lta := own_nlt (Ea.lt)
  refine go_of (A := s₁.setTop (entryFrame m #[(.ref a), (.ref ky), .null] 3)) (B := s₁.setTop (mkF m 0 #[.val (.ref a), .val (.ref ky), .val .null] [])) (fun _ kk' => castTop (ef_ds2n m a ky) kk') ?_
  refine go_of (B := (s₁.setTop (mkF m 4 #[.val (.ref a), .val (.ref ky), .val .null] [.null, .null, (.ref ky), (.ref a)]))) (fun _ kk => XS.aloadN X0.here hx rfl (hb hby d5_0) rfl rfl (XS.aloadN X0.here hx rfl (hb hby d5_1) rfl rfl (XS.aconstNull X0.here hx rfl (hb hby d5_2) (XS.aloadN X0.here hx rfl (hb hby d5_3) rfl rfl kk)))) ?_
  obtain ⟨_, _, ⟨T1, L1, k1, n1⟩, -, X1, ⟨Lc1, hQ1, l1, y1, z1⟩, st1⟩ := Jvm.LawKit.callS X0 hx (y := MN29) hown (mvT hZ (wd 49 rfl)) (mvT hZ (wd 50 rfl)) (mvT hZ (wd 51 rfl)) (mvT hZ (wd 52 rfl)) (by decide) (backOf (W := 4) (lof l Z a0 hw [] wE h0 n0 (by omega) O SE) hZ (wd 52 rfl) (wd 51 rfl) (by decide) (by decide)) (g := (mkF m 4 #[.val (.ref a), .val (.ref ky), .val .null] [.null, .null, (.ref ky), (.ref a)])) rfl (by rw [hml]; rfl) (argsL := []) (rest := [.null, .null, (.ref ky), (.ref a)]) (lenOf pd___Ljava_util_List_ rfl) rfl (Nat.le_of_eq rfl) (hb hby d5_4) (fun _ _ => ⟨rfl, e0, (by decide : 0 + 0 ≤ _), (by decide : 0 + 0 ≤ _)⟩)
  dsimp only [Pt.U, Pt.locs, Pt.cells, Pt.slots] at X1 l1 y1 z1 st1 hQ1
  subst l1 y1 z1
  obtain ⟨rfl, N1q, e1⟩ := hQ1
  have N1 := Fr.app N0 N1q
  refine go_of (B := (T1.setTop (mkF m 7 #[.val (.ref a), .val (.ref ky), .val .null] [(.ref wE), .null, .null, (.ref ky), (.ref a)]))) (st1) ?_
  obtain ⟨_, _, ⟨T2, L2, k2, n2⟩, -, X2', hS2', gr2, ⟨Lc2, hQ2, l2, y2, z2⟩, st2⟩ := X1.specialBackS hx (y := MN1) rfl hown (mvT hZ (wd 55 rfl)) (mvT hZ (wd 56 rfl)) (mvT hZ (wd 57 rfl)) (by decide) (backOfS (W := 0) (ds4n l Z a0 hw [] a ky wE v0 v1 v2 v3 h0 n0 (by omega) O EE FE Ea Fa0 Fa1 Fa2 Fa3 g) hZ (wd 57 rfl) (wd 37 rfl) (by decide) (by decide)) (g := (mkF m 7 #[.val (.ref a), .val (.ref ky), .val .null] [(.ref wE), .null, .null, (.ref ky), (.ref a)])) rfl (by rw [hml]; rfl) (Steps.refl _) (a := a) (argsL := [(.ref ky), .null, .null, (.ref wE)]) (rest := []) (lenOf pd__Ljava_lang_String_Ljava_lang_String_Lcom_example_wombat_wombat_rules_RateLimit_Ljava_util_List__V rfl) rfl (Nat.le_of_eq rfl) (hb hby d5_7) (fun _ _ => ⟨rfl, e1, (by decide : 0 + 2 ≤ _), (by decide : 0 + 16 ≤ _)⟩)
  dsimp only [Pt.U, Pt.locs, Pt.cells, Pt.slots] at X2' hS2' gr2 l2 y2 z2 st2 hQ2
  subst l2 y2 z2
  have X2 : Stand _ _ _ _ (s.setVm T2.vm) _ _ _ _ _ T2 _ _ _ := X2'
  have hS : s.Since T2.vm T2.heap.size := foldS hS (by rw [e1]; omega) hS2' gr2
  have hZ : Z.Warmed39 (s.setVm T2.vm).vm := State.Warmed39.trans (t := s.setVm s.vm) hZ hS2'.1
  have hown : (s.setVm T2.vm).vm.findClass "com/example/wombat/wombat/rules/Descriptor" = some m.cls := by rw [show (s.setVm T2.vm).vm = T2.vm from rfl, hS2'.1.alike.findClass]; exact hown
  obtain ⟨rfl, N2q, K2, A2⟩ := hQ2
  have N2 := Fr.app N1 N2q
  have sz2 := K2.1
  refine go_tr (B := (T2.setTop (mkF m 10 #[.val (.ref a), .val (.ref ky), .val .null] []))) (st2) ?_
  refine go_endW X2 hS (by first | omega | exact own_ne (by omega) | exact own_le (by omega)) (v := none) (fun _ => rfl) Bd.notSynchronized (by decide) (by decide) (Q := (Q_ds2n Z a ky wE v0 v1 v2 v3 h0 n0)) ?_ (fun fs hr => X2.returnOut hx Bd.returns (hb hby d5_10) hr)
  unfold Q_ds2n
  exact ⟨rfl, N2, ((Keep.refl h0 [a]).trans K2 (allS (Or.inl (List.mem_of_getElem? (i := 0) rfl)) all0)), A2⟩
def Q_ds4r (Z : State) (a : Addr) (ky : Addr) (rl : Addr) (wE : Addr) (v0 : Value) (v1 : Value) (v2 : Value) (v3 : Value) (h0 : Heap) (n0 : Nat) (v : Option Value) (h : Heap) (L : List Loc) : Prop := v = none ∧ Fr n0 L ∧ Keep h0 h [a] ∧ Exa Z h a "com/example/wombat/wombat/rules/Descriptor" ∧ Fld Z h a "com/example/wombat/wombat/rules/Descriptor" "rateLimit" "Lcom/example/wombat/wombat/rules/RateLimit;" (.ref rl)
theorem ef_ds4r (m : MethodId) (a : Addr) (ky : Addr) (rl : Addr) (wE : Addr)  : entryFrame m #[(.ref a), (.ref ky), .null, (.ref rl), (.ref wE)] 5 = mkF m 0 #[.val (.ref a), .val (.ref ky), .val .null, .val (.ref rl), .val (.ref wE)] [] := by first | (simp [entryFrame, mkF, argsToLocals, Value.category]; done) | rfl
theorem ds4r (l : Launch) (Z : State) (a0 : Array Value) (hw : TW a0 Z) (ws : List Cond) (a : Addr) (ky : Addr) (rl : Addr) (wE : Addr) (v0 : Value) (v1 : Value) (v2 : Value) (v3 : Value) (h0 : Heap) (n0 : Nat) (Z0 : n0 ≤ h0.size) (O : Old Z n0 h0) (EE : Exa Z Z.heap wE "java/util/ImmutableCollections$ListN") (FE : Fld Z Z.heap wE "java/util/ImmutableCollections$ListN" "allowNulls" "Z" (.int 0)) (Ea : Exa Z h0 a "com/example/wombat/wombat/rules/Descriptor") (Fa0 : Fld Z h0 a "com/example/wombat/wombat/rules/Descriptor" "key" "Ljava/lang/String;" v0) (Fa1 : Fld Z h0 a "com/example/wombat/wombat/rules/Descriptor" "value" "Ljava/lang/String;" v1) (Fa2 : Fld Z h0 a "com/example/wombat/wombat/rules/Descriptor" "rateLimit" "Lcom/example/wombat/wombat/rules/RateLimit;" v2) (Fa3 : Fld Z h0 a "com/example/wombat/wombat/rules/Descriptor" "descriptors" "Ljava/util/List;" v3) (g : n0 ≤ a) :
    own_MFW l Z MN1 prog_27_method_1_code 5 none ws (own_R 2 2 16 25) #[(.ref a), (.ref ky), .null, (.ref rl), (.ref wE)] h0 (Q_ds4r Z a ky rl wE v0 v1 v2 v3 h0 n0) := by
  have wd := @own_wd _ _ hw
  refine MetFree.of_bodySF (plainFor_of_name pn_com_example_wombat_wombat_rules_Descriptor) hisR ?_
  intro p e s m args below meth c s₁ Bd hml0 hP hK
  obtain ⟨rfl, hZ, hh⟩ := hP
  have hx := Bd.exec
  have hby := Bd.bytes
  have hml : c.maxLocals = 5 := hml0
  have hown : s.vm.findClass "com/example/wombat/wombat/rules/Descriptor" = some m.cls := findClass_of_methodNamed Bd.named
  have hnm := (name_of_methodNamed Bd.named Bd.method).1
  have X0 : Stand p l e (own_R 2 2 16 25) (s.setVm s.vm) m #[(.ref a), (.ref ky), .null, (.ref rl), (.ref wE)] below meth c s₁ [] 0 0 := Stand.of_body Bd
  have e0 : s₁.heap = h0 := by rw [← hh, Bd.state]; rfl
  have N0 := Fr.nil n0
  have hS : s.Since s.vm 0 := (State.WarmedH.refl s).since 0
  have lta := own_nlt (Ea.lt)
  refine go_of (A := s₁.setTop (entryFrame m #[(.ref a), (.ref ky), .null, (.ref rl), (.ref wE)] 5)) (B := s₁.setTop (mkF m 0 #[.val (.ref a), .val (.ref ky), .val .null, .val (.ref rl), .val (.ref wE)] [])) (fun _ kk' => castTop (ef_ds4r m a ky rl wE) kk') ?_
  refine go_of (B := (s₁.setTop (mkF m 1 #[.val (.ref a), .val (.ref ky), .val .null, .val (.ref rl), .val (.ref wE)] [(.ref a)]))) (fun _ kk => XS.aloadN X0.here hx rfl (hb hby d7_0) rfl rfl kk) ?_
  obtain ⟨_, _, ⟨T1, L1, k1, n1⟩, -, X1, ⟨Lc1, hQ1, l1, y1, z1⟩, st1⟩ := X0.specialBack hx (y := MN8) rfl hown (mvT hZ (wd 58 rfl)) (mvT hZ (wd 16 rfl)) (mvT hZ (wd 19 rfl)) (by decide) (backOf (W := 0) (rm3 l Z a0 hw [] a h0 n0 (by omega)) hZ (wd 19 rfl) (wd 18 rfl) (by decide) (by decide)) (g := (mkF m 1 #[.val (.ref a), .val (.ref ky), .val .null, .val (.ref rl), .val (.ref wE)] [(.ref a)])) rfl (by rw [hml]; rfl) (Steps.refl _) (a := a) (argsL := []) (rest := []) (lenOf pd___V rfl) rfl (Nat.le_of_eq rfl) (hb hby d7_1) (fun _ _ => ⟨rfl, e0, (by decide : 0 + 0 ≤ _), (by decide : 0 + 0 ≤ _)⟩)
  dsimp only [Pt.U, Pt.locs, Pt.cells, Pt.slots] at X1 l1 y1 z1 st1 hQ1
  subst l1 y1 z1
  obtain ⟨rfl, N1q, e1⟩ := hQ1
  have N1 := Fr.app N0 N1q
  refine go_tr (B := (T1.setTop (mkF m 4 #[.val (.ref a), .val (.ref ky), .val .null, .val (.ref rl), .val (.ref wE)] []))) (st1) ?_
  refine go_of (B := (T1.setTop (mkF m 5 #[.val (.ref a), .val (.ref ky), .val .null, .val (.ref rl), .val (.ref wE)] [(.ref ky)]))) (fun _ kk => XS.aloadN X1.here hx rfl (hb hby d7_4) rfl rfl kk) ?_
  obtain ⟨b2, T2, h2, k2, X2, e2, E2, hS, hk2, hZ, hown, st2⟩ := ldcS X1 hx hZ hown (wd 59 rfl) (own_wS hw) e1 hS (by first | omega | exact own_ne (by omega) | exact own_le (by omega)) (g := (mkF m 5 #[.val (.ref a), .val (.ref ky), .val .null, .val (.ref rl), .val (.ref wE)] [(.ref ky)])) rfl (hb hby d7_5) (n := 12) (by decide) (by decide) (by decide) (by decide)
  have sz2 := E2.1
  refine go_of (B := (T2.setTop (mkF m 7 #[.val (.ref a), .val (.ref ky), .val .null, .val (.ref rl), .val (.ref wE)] [(.ref b2), (.ref ky)]))) (st2) ?_
  obtain ⟨_, _, ⟨T3, L3, k3, n3⟩, -, X3, ⟨Lc3, hQ3, l3, y3, z3⟩, st3⟩ := Jvm.LawKit.callS X2 hx (y := MN33) hown (mvT hZ (wd 60 rfl)) (mvT hZ (wd 61 rfl)) (mvT hZ (wd 62 rfl)) (mvT hZ (wd 63 rfl)) (by decide) (backOf (W := 0) (rnn2 l Z a0 hw [] ky b2 h2 n0 (by omega)) hZ (wd 63 rfl) (wd 62 rfl) (by decide) (by decide)) (g := (mkF m 7 #[.val (.ref a), .val (.ref ky), .val .null, .val (.ref rl), .val (.ref wE)] [(.ref b2), (.ref ky)])) rfl (by rw [hml]; rfl) (argsL := [(.ref ky), (.ref b2)]) (rest := []) (lenOf pd__Ljava_lang_Object_Ljava_lang_String__Ljava_lang_Object_ rfl) rfl (Nat.le_of_eq rfl) (hb hby d7_7) (fun _ _ => ⟨rfl, e2, (by decide : 2 + 0 ≤ _), (by decide : 16 + 0 ≤ _)⟩)
  dsimp only [Pt.U, Pt.locs, Pt.cells, Pt.slots] at X3 l3 y3 z3 st3 hQ3
  subst l3 y3 z3
  obtain ⟨rfl, N3q, e3⟩ := hQ3
  have N3 := Fr.app N1 N3q
  refine go_of (B := (T3.setTop (mkF m 10 #[.val (.ref a), .val (.ref ky), .val .null, .val (.ref rl), .val (.ref wE)] [(.ref ky)]))) (st3) ?_
  refine go_of (B := (T3.setTop (mkF m 13 #[.val (.ref a), .val (.ref ky), .val .null, .val (.ref rl), .val (.ref wE)] [(.ref wE)]))) (fun _ kk => XS.pop X3.here hx rfl (hb hby d7_10) rfl rfl (XS.aload X3.here hx rfl (hb hby d7_11) rfl rfl kk)) ?_
  have cf_4 := (O.ext E2)
  obtain ⟨_, _, ⟨T5, L5, k5, n5⟩, -, X5, ⟨Lc5, hQ5, l5, y5, z5⟩, st5⟩ := Jvm.LawKit.callS X3 hx (y := MN26) hown (mvT hZ (wd 64 rfl)) (mvT hZ (wd 65 rfl)) (mvT hZ (wd 51 rfl)) (mvT hZ (wd 66 rfl)) (by decide) (backOf (W := 0) (coE l Z a0 hw [] wE h2 n0 (by omega) cf_4 EE FE) hZ (wd 66 rfl) (wd 51 rfl) (by decide) (by decide)) (g := (mkF m 13 #[.val (.ref a), .val (.ref ky), .val .null, .val (.ref rl), .val (.ref wE)] [(.ref wE)])) rfl (by rw [hml]; rfl) (argsL := [(.ref wE)]) (rest := []) (lenOf pd__Ljava_util_Collection__Ljava_util_List_ rfl) rfl (Nat.le_of_eq rfl) (hb hby d7_13) (fun _ _ => ⟨rfl, e3, (by decide : 2 + 0 ≤ _), (by decide : 16 + 0 ≤ _)⟩)
  dsimp only [Pt.U, Pt.locs, Pt.cells, Pt.slots] at X5 l5 y5 z5 st5 hQ5
  subst l5 y5 z5
  obtain ⟨rfl, N5q, e5⟩ := hQ5
  have N5 := Fr.app N3 N5q
  refine go_of (B := (T5.setTop (mkF m 16 #[.val (.ref a), .val (.ref ky), .val .null, .val (.ref rl), .val (.ref wE)] [(.ref wE)]))) (st5) ?_
  refine go_of (B := (T5.setTop (mkF m 20 #[.val (.ref a), .val (.ref ky), .val .null, .val (.ref rl), .val (.ref wE)] [(.ref ky), (.ref a)]))) (fun _ kk => XS.astore X5.here hx rfl (hb hby d7_16) rfl rfl rfl (XS.aloadN X5.here hx rfl (hb hby d7_18) rfl rfl (XS.aloadN X5.here hx rfl (hb hby d7_19) rfl rfl kk))) ?_
  have cf_6 := (Ea.ext E2)
  have cf_7 := (Fa0.ext E2)
  obtain ⟨T8, h8, X8, e8, W8, st8⟩ := putF X5 hx hZ hown (host := "") (Or.inl (wd 82 rfl)) Via.refl e5 cf_7 cf_6 (Or.inr ⟨(wd 83 rfl), rfl, hnm⟩) (wd 36 rfl) (ty := (.object "java/lang/String")) (by decide) rfl rfl (g := (mkF m 20 #[.val (.ref a), .val (.ref ky), .val .null, .val (.ref rl), .val (.ref wE)] [(.ref ky), (.ref a)])) rfl rfl (hb hby d7_20)
  have sz8 := W8.size
  have Fw8 := cf_7.same W8
  have N8 := Fr.snoc X8 N5 (g : n0 ≤ a)
  refine go_of (B := (T8.setTop (mkF m 23 #[.val (.ref a), .val (.ref ky), .val .null, .val (.ref rl), .val (.ref wE)] []))) (st8) ?_
  refine go_of (B := (T8.setTop (mkF m 25 #[.val (.ref a), .val (.ref ky), .val .null, .val (.ref rl), .val (.ref wE)] [.null, (.ref a)]))) (fun _ kk => XS.aloadN X8.here hx rfl (hb hby d7_23) rfl rfl (XS.aloadN X8.here hx rfl (hb hby d7_24) rfl rfl kk)) ?_
  have cf_9 := (cf_6.wr W8)
  have cf_10 := ((Fa1.ext E2).other W8 (Or.inr (slot_ne (Or.inr (wd 85 rfl)) (Or.inr (wd 83 rfl)) (by decide) (t := (.object "java/lang/String")) (t' := (.object "java/lang/String")) (by decide) (by decide))))
  obtain ⟨T11, h11, X11, e11, W11, st11⟩ := putF X8 hx hZ hown (host := "") (Or.inl (wd 84 rfl)) Via.refl e8 cf_10 cf_9 (Or.inr ⟨(wd 85 rfl), rfl, hnm⟩) (wd 36 rfl) (ty := (.object "java/lang/String")) (by decide) rfl rfl (g := (mkF m 25 #[.val (.ref a), .val (.ref ky), .val .null, .val (.ref rl), .val (.ref wE)] [.null, (.ref a)])) rfl rfl (hb hby d7_25)
  have sz11 := W11.size
  have Fw11 := cf_10.same W11
  have N11 := Fr.snoc X11 N8 (g : n0 ≤ a)
  refine go_of (B := (T11.setTop (mkF m 28 #[.val (.ref a), .val (.ref ky), .val .null, .val (.ref rl), .val (.ref wE)] []))) (st11) ?_
  refine go_of (B := (T11.setTop (mkF m 30 #[.val (.ref a), .val (.ref ky), .val .null, .val (.ref rl), .val (.ref wE)] [(.ref rl), (.ref a)]))) (fun _ kk => XS.aloadN X11.here hx rfl (hb hby d7_28) rfl rfl (XS.aloadN X11.here hx rfl (hb hby d7_29) rfl rfl kk)) ?_
  have cf_12 := (cf_9.wr W11)
  have cf_13 := (((Fa2.ext E2).other W8 (Or.inr (slot_ne (Or.inr (wd 87 rfl)) (Or.inr (wd 83 rfl)) (by decide) (t := (.object "com/example/wombat/wombat/rules/RateLimit")) (t' := (.object "java/lang/String")) (by decide) (by decide)))).other W11 (Or.inr (slot_ne (Or.inr (wd 87 rfl)) (Or.inr (wd 85 rfl)) (by decide) (t := (.object "com/example/wombat/wombat/rules/RateLimit")) (t' := (.object "java/lang/String")) (by decide) (by decide))))
  obtain ⟨T14, h14, X14, e14, W14, st14⟩ := putF X11 hx hZ hown (host := "") (Or.inl (wd 86 rfl)) Via.refl e11 cf_13 cf_12 (Or.inr ⟨(wd 87 rfl), rfl, hnm⟩) (wd 36 rfl) (ty := (.object "com/example/wombat/wombat/rules/RateLimit")) (by decide) rfl rfl (g := (mkF m 30 #[.val (.ref a), .val (.ref ky), .val .null, .val (.ref rl), .val (.ref wE)] [(.ref rl), (.ref a)])) rfl rfl (hb hby d7_30)
  have sz14 := W14.size
  have Fw14 := cf_13.same W14
  have N14 := Fr.snoc X14 N11 (g : n0 ≤ a)
  refine go_of (B := (T14.setTop (mkF m 33 #[.val (.ref a), .val (.ref ky), .val .null, .val (.ref rl), .val (.ref wE)] []))) (st14) ?_
  refine go_of (B := (T14.setTop (mkF m 36 #[.val (.ref a), .val (.ref ky), .val .null, .val (.ref rl), .val (.ref wE)] [(.ref wE), (.ref a)]))) (fun _ kk => XS.aloadN X14.here hx rfl (hb hby d7_33) rfl rfl (XS.aload X14.here hx rfl (hb hby d7_34) rfl rfl kk)) ?_
  have cf_15 := (cf_12.wr W14)
  have cf_16 := ((((Fa3.ext E2).other W8 (Or.inr (slot_ne (Or.inr (wd 89 rfl)) (Or.inr (wd 83 rfl)) (by decide) (t := (.object "java/util/List")) (t' := (.object "java/lang/String")) (by decide) (by decide)))).other W11 (Or.inr (slot_ne (Or.inr (wd 89 rfl)) (Or.inr (wd 85 rfl)) (by decide) (t := (.object "java/util/List")) (t' := (.object "java/lang/String")) (by decide) (by decide)))).other W14 (Or.inr (slot_ne (Or.inr (wd 89 rfl)) (Or.inr (wd 87 rfl)) (by decide) (t := (.object "java/util/List")) (t' := (.object "com/example/wombat/wombat/rules/RateLimit")) (by decide) (by decide))))
  obtain ⟨T17, h17, X17, e17, W17, st17⟩ := putF X14 hx hZ hown (host := "") (Or.inl (wd 88 rfl)) Via.refl e14 cf_16 cf_15 (Or.inr ⟨(wd 89 rfl), rfl, hnm⟩) (wd 36 rfl) (ty := (.object "java/util/List")) (by decide) rfl rfl (g := (mkF m 36 #[.val (.ref a), .val (.ref ky), .val .null, .val (.ref rl), .val (.ref wE)] [(.ref wE), (.ref a)])) rfl rfl (hb hby d7_36)
  have sz17 := W17.size
  have Fw17 := cf_16.same W17
  have N17 := Fr.snoc X17 N14 (g : n0 ≤ a)
  refine go_of (B := (T17.setTop (mkF m 39 #[.val (.ref a), .val (.ref ky), .val .null, .val (.ref rl), .val (.ref wE)] []))) (st17) ?_
  have cf_18 := (cf_15.wr W17)
  have cf_19 := (Fw14.other W17 (Or.inr (slot_ne (Or.inr (wd 87 rfl)) (Or.inr (wd 89 rfl)) (by decide) (t := (.object "com/example/wombat/wombat/rules/RateLimit")) (t' := (.object "java/util/List")) (by decide) (by decide))))
  refine go_endW X17 hS (by rw [e17]; omega) (v := none) (fun _ => rfl) Bd.notSynchronized (by decide) (by decide) (Q := (Q_ds4r Z a ky rl wE v0 v1 v2 v3 h0 n0)) ?_ (fun fs hr => X17.returnOut hx Bd.returns (hb hby d7_39) hr)
  unfold Q_ds4r
  try rw [e17]
  exact ⟨rfl, N17, ((((((Keep.refl h0 [a]).ext E2).wr W8 (Or.inl (List.mem_of_getElem? (i := 0) rfl))).wr W11 (Or.inl (List.mem_of_getElem? (i := 0) rfl))).wr W14 (Or.inl (List.mem_of_getElem? (i := 0) rfl))).wr W17 (Or.inl (List.mem_of_getElem? (i := 0) rfl))), cf_18, cf_19⟩
def Q_ds2r (Z : State) (a : Addr) (ky : Addr) (rl : Addr) (wE : Addr) (v0 : Value) (v1 : Value) (v2 : Value) (v3 : Value) (h0 : Heap) (n0 : Nat) (v : Option Value) (h : Heap) (L : List Loc) : Prop := v = none ∧ Fr n0 L ∧ Keep h0 h [a] ∧ Exa Z h a "com/example/wombat/wombat/rules/Descriptor" ∧ Fld Z h a "com/example/wombat/wombat/rules/Descriptor" "rateLimit" "Lcom/example/wombat/wombat/rules/RateLimit;" (.ref rl)
theorem ef_ds2r (m : MethodId) (a : Addr) (ky : Addr) (rl : Addr)  : entryFrame m #[(.ref a), (.ref ky), (.ref rl)] 3 = mkF m 0 #[.val (.ref a), .val (.ref ky), .val (.ref rl)] [] := by first | (simp [entryFrame, mkF, argsToLocals, Value.category]; done) | rfl
theorem ds2r (l : Launch) (Z : State) (a0 : Array Value) (hw : TW a0 Z) (ws : List Cond) (a : Addr) (ky : Addr) (rl : Addr) (wE : Addr) (v0 : Value) (v1 : Value) (v2 : Value) (v3 : Value) (h0 : Heap) (n0 : Nat) (Z0 : n0 ≤ h0.size) (O : Old Z n0 h0) (SE : Sta Z Z.heap "java/util/ImmutableCollections" "EMPTY_LIST" "Ljava/util/ImmutableCollections$ListN;" (.ref wE)) (EE : Exa Z Z.heap wE "java/util/ImmutableCollections$ListN") (FE : Fld Z Z.heap wE "java/util/ImmutableCollections$ListN" "allowNulls" "Z" (.int 0)) (Ea : Exa Z h0 a "com/example/wombat/wombat/rules/Descriptor") (Fa0 : Fld Z h0 a "com/example/wombat/wombat/rules/Descriptor" "key" "Ljava/lang/String;" v0) (Fa1 : Fld Z h0 a "com/example/wombat/wombat/rules/Descriptor" "value" "Ljava/lang/String;" v1) (Fa2 : Fld Z h0 a "com/example/wombat/wombat/rules/Descriptor" "rateLimit" "Lcom/example/wombat/wombat/rules/RateLimit;" v2) (Fa3 : Fld Z h0 a "com/example/wombat/wombat/rules/Descriptor" "descriptors" "Ljava/util/List;" v3) (g : n0 ≤ a) :
    own_MFW l Z MN0 prog_27_method_2_code 3 none ws (own_R 3 2 16 41) #[(.ref a), (.ref ky), (.ref rl)] h0 (Q_ds2r Z a ky rl wE v0 v1 v2 v3 h0 n0) := by
  have wd := @own_wd _ _ hw
  refine MetFree.of_bodySF (plainFor_of_name pn_com_example_wombat_wombat_rules_Descriptor) hisR ?_
  intro p e s m args below meth c s₁ Bd hml0 hP hK
  obtain ⟨rfl, hZ, hh⟩ := hP
  have hx := Bd.exec
  have hby := Bd.bytes
  have hml : c.maxLocals = 3 := hml0
  have hown : s.vm.findClass "com/example/wombat/wombat/rules/Descriptor" = some m.cls := findClass_of_methodNamed Bd.named
  have hnm := (name_of_methodNamed Bd.named Bd.method).1
  have X0 : Stand p l e (own_R 3 2 16 41) (s.setVm s.vm) m #[(.ref a), (.ref ky), (.ref rl)] below meth c s₁ [] 0 0 := Stand.of_body Bd
  have e0 : s₁.heap = h0 := by rw [← hh, Bd.state]; rfl
  have N0 := Fr.nil n0
  have hS : s.Since s.vm 0 := (State.WarmedH.refl s).since 0
  have lta := own_nlt (Ea.lt)
  refine go_of (A := s₁.setTop (entryFrame m #[(.ref a), (.ref ky), (.ref rl)] 3)) (B := s₁.setTop (mkF m 0 #[.val (.ref a), .val (.ref ky), .val (.ref rl)] [])) (fun _ kk' => castTop (ef_ds2r m a ky rl) kk') ?_
  refine go_of (B := (s₁.setTop (mkF m 4 #[.val (.ref a), .val (.ref ky), .val (.ref rl)] [(.ref rl), .null, (.ref ky), (.ref a)]))) (fun _ kk => XS.aloadN X0.here hx rfl (hb hby d5_0) rfl rfl (XS.aloadN X0.here hx rfl (hb hby d5_1) rfl rfl (XS.aconstNull X0.here hx rfl (hb hby d5_2) (XS.aloadN X0.here hx rfl (hb hby d5_3) rfl rfl kk)))) ?_
  obtain ⟨_, _, ⟨T1, L1, k1, n1⟩, -, X1, ⟨Lc1, hQ1, l1, y1, z1⟩, st1⟩ := Jvm.LawKit.callS X0 hx (y := MN29) hown (mvT hZ (wd 49 rfl)) (mvT hZ (wd 50 rfl)) (mvT hZ (wd 51 rfl)) (mvT hZ (wd 52 rfl)) (by decide) (backOf (W := 4) (lof l Z a0 hw [] wE h0 n0 (by omega) O SE) hZ (wd 52 rfl) (wd 51 rfl) (by decide) (by decide)) (g := (mkF m 4 #[.val (.ref a), .val (.ref ky), .val (.ref rl)] [(.ref rl), .null, (.ref ky), (.ref a)])) rfl (by rw [hml]; rfl) (argsL := []) (rest := [(.ref rl), .null, (.ref ky), (.ref a)]) (lenOf pd___Ljava_util_List_ rfl) rfl (Nat.le_of_eq rfl) (hb hby d5_4) (fun _ _ => ⟨rfl, e0, (by decide : 0 + 0 ≤ _), (by decide : 0 + 0 ≤ _)⟩)
  dsimp only [Pt.U, Pt.locs, Pt.cells, Pt.slots] at X1 l1 y1 z1 st1 hQ1
  subst l1 y1 z1
  obtain ⟨rfl, N1q, e1⟩ := hQ1
  have N1 := Fr.app N0 N1q
  refine go_of (B := (T1.setTop (mkF m 7 #[.val (.ref a), .val (.ref ky), .val (.ref rl)] [(.ref wE), (.ref rl), .null, (.ref ky), (.ref a)]))) (st1) ?_
  obtain ⟨_, _, ⟨T2, L2, k2, n2⟩, -, X2', hS2', gr2, ⟨Lc2, hQ2, l2, y2, z2⟩, st2⟩ := X1.specialBackS hx (y := MN1) rfl hown (mvT hZ (wd 55 rfl)) (mvT hZ (wd 56 rfl)) (mvT hZ (wd 57 rfl)) (by decide) (backOfS (W := 0) (ds4r l Z a0 hw [] a ky rl wE v0 v1 v2 v3 h0 n0 (by omega) O EE FE Ea Fa0 Fa1 Fa2 Fa3 g) hZ (wd 57 rfl) (wd 37 rfl) (by decide) (by decide)) (g := (mkF m 7 #[.val (.ref a), .val (.ref ky), .val (.ref rl)] [(.ref wE), (.ref rl), .null, (.ref ky), (.ref a)])) rfl (by rw [hml]; rfl) (Steps.refl _) (a := a) (argsL := [(.ref ky), .null, (.ref rl), (.ref wE)]) (rest := []) (lenOf pd__Ljava_lang_String_Ljava_lang_String_Lcom_example_wombat_wombat_rules_RateLimit_Ljava_util_List__V rfl) rfl (Nat.le_of_eq rfl) (hb hby d5_7) (fun _ _ => ⟨rfl, e1, (by decide : 0 + 2 ≤ _), (by decide : 0 + 16 ≤ _)⟩)
  dsimp only [Pt.U, Pt.locs, Pt.cells, Pt.slots] at X2' hS2' gr2 l2 y2 z2 st2 hQ2
  subst l2 y2 z2
  have X2 : Stand _ _ _ _ (s.setVm T2.vm) _ _ _ _ _ T2 _ _ _ := X2'
  have hS : s.Since T2.vm T2.heap.size := foldS hS (by rw [e1]; omega) hS2' gr2
  have hZ : Z.Warmed39 (s.setVm T2.vm).vm := State.Warmed39.trans (t := s.setVm s.vm) hZ hS2'.1
  have hown : (s.setVm T2.vm).vm.findClass "com/example/wombat/wombat/rules/Descriptor" = some m.cls := by rw [show (s.setVm T2.vm).vm = T2.vm from rfl, hS2'.1.alike.findClass]; exact hown
  obtain ⟨rfl, N2q, K2, A2⟩ := hQ2
  have N2 := Fr.app N1 N2q
  have sz2 := K2.1
  refine go_tr (B := (T2.setTop (mkF m 10 #[.val (.ref a), .val (.ref ky), .val (.ref rl)] []))) (st2) ?_
  refine go_endW X2 hS (by first | omega | exact own_ne (by omega) | exact own_le (by omega)) (v := none) (fun _ => rfl) Bd.notSynchronized (by decide) (by decide) (Q := (Q_ds2r Z a ky rl wE v0 v1 v2 v3 h0 n0)) ?_ (fun fs hr => X2.returnOut hx Bd.returns (hb hby d5_10) hr)
  unfold Q_ds2r
  exact ⟨rfl, N2, ((Keep.refl h0 [a]).trans K2 (allS (Or.inl (List.mem_of_getElem? (i := 0) rfl)) all0)), A2⟩
def AL (Z : State) (h : Heap) (a : Addr) (m : Int32) (d : Addr) (z : Int32) : Prop := Exa Z h a "java/util/ArrayList" ∧ Fld Z h a "java/util/AbstractList" "modCount" "I" (.int m) ∧ Fld Z h a "java/util/ArrayList" "elementData" "[Ljava/lang/Object;" (.ref d) ∧ Fld Z h a "java/util/ArrayList" "size" "I" (.int z)
theorem AL.ext {Z : State} {h h' : Heap} {a : Addr} {m : Int32} {d : Addr} {z : Int32} (A : AL Z h a m d z) (E : Ext h h') : AL Z h' a m d z := ⟨A.1.ext E, A.2.1.ext E, A.2.2.1.ext E, A.2.2.2.ext E⟩
theorem AL.keep {Z : State} {h h' : Heap} {a : Addr} {m : Int32} {d : Addr} {z : Int32} {ws : List Addr} (A : AL Z h a m d z) (K : Keep h h' ws) (q : a ∉ ws) : AL Z h' a m d z := ⟨A.1.keep K, A.2.1.keep K q, A.2.2.1.keep K q, A.2.2.2.keep K q⟩

theorem d13_0 : decode jdk_22_method_1_code 0 = .ok (.aload_n 0, 1) := by decide +kernel
theorem d13_1 : decode jdk_22_method_1_code 1 = .ok (.invokespecial 1, 3) := by decide +kernel
theorem d13_4 : decode jdk_22_method_1_code 4 = .ok (.return_, 1) := by decide +kernel
def Q_rm13 (Z : State) (a : Addr) (h0 : Heap) (n0 : Nat) (v : Option Value) (h : Heap) (L : List Loc) : Prop := v = none ∧ Fr n0 L ∧ h = h0
theorem pn_java_util_AbstractCollection : plainName "java/util/AbstractCollection" = true := by first | (simp [plainName, overriddenIn]; done) | decide +kernel
theorem ef_rm13 (m : MethodId) (a : Addr)  : entryFrame m #[(.ref a)] 1 = mkF m 0 #[.val (.ref a)] [] := by first | (simp [entryFrame, mkF, argsToLocals, Value.category]; done) | rfl
theorem rm13 (l : Launch) (Z : State) (a0 : Array Value) (hw : TW a0 Z) (ws : List Cond) (a : Addr) (h0 : Heap) (n0 : Nat) (Z0 : n0 ≤ h0.size)  :
    own_MF l Z MN9 jdk_22_method_1_code 1 none ws (own_R 1 0 0 12) #[(.ref a)] h0 (Q_rm13 Z a h0 n0) := by
  have wd := @own_wd _ _ hw
  refine MetFree.of_bodySF (plainFor_of_name pn_java_util_AbstractCollection) hisR ?_
  intro p e s m args below meth c s₁ Bd hml0 hP hK
  obtain ⟨rfl, hZ, hh⟩ := hP
  have hx := Bd.exec
  have hby := Bd.bytes
  have hml : c.maxLocals = 1 := hml0
  have hown : s.vm.findClass "java/util/AbstractCollection" = some m.cls := findClass_of_methodNamed Bd.named
  have hnm := (name_of_methodNamed Bd.named Bd.method).1
  have X0 : Stand p l e (own_R 1 0 0 12) s m #[(.ref a)] below meth c s₁ [] 0 0 := Stand.of_body Bd
  have e0 : s₁.heap = h0 := by rw [← hh, Bd.state]; rfl
  have N0 := Fr.nil n0
  refine go_of (A := s₁.setTop (entryFrame m #[(.ref a)] 1)) (B := s₁.setTop (mkF m 0 #[.val (.ref a)] [])) (fun _ kk' => castTop (ef_rm13 m a) kk') ?_
  refine go_of (B := (s₁.setTop (mkF m 1 #[.val (.ref a)] [(.ref a)]))) (fun _ kk => XS.aloadN X0.here hx rfl (hb hby d13_0) rfl rfl kk) ?_
  obtain ⟨T1, X1, e1, st1⟩ := initO X0 hx hZ hown (wd 110 rfl) (wd 21 rfl) (wd 22 rfl) e0 (g := (mkF m 1 #[.val (.ref a)] [(.ref a)])) rfl (by rw [hml]; rfl) rfl (hb hby d13_1) (by decide) (W := 0) (Nat.le_of_eq rfl) (by decide)
  refine go_of (B := (T1.setTop (mkF m 4 #[.val (.ref a)] []))) (st1) ?_
  refine go_end X1 (v := none) (fun _ => rfl) Bd.notSynchronized (by decide) (by decide) (Q := (Q_rm13 Z a h0 n0)) ?_ (fun fs hr => X1.returnOut hx Bd.returns (hb hby d13_4) hr)
  unfold Q_rm13
  try rw [e1]
  exact ⟨rfl, N0, rfl⟩
theorem d12_0 : decode jdk_39_method_1_code 0 = .ok (.aload_n 0, 1) := by decide +kernel
theorem d12_1 : decode jdk_39_method_1_code 1 = .ok (.invokespecial 1, 3) := by decide +kernel
theorem d12_4 : decode jdk_39_method_1_code 4 = .ok (.aload_n 0, 1) := by decide +kernel
theorem d12_5 : decode jdk_39_method_1_code 5 = .ok (.iconst 0, 1) := by decide +kernel
theorem d12_6 : decode jdk_39_method_1_code 6 = .ok (.putfield 7, 3) := by decide +kernel
theorem d12_9 : decode jdk_39_method_1_code 9 = .ok (.return_, 1) := by decide +kernel
def Q_rm12 (Z : State) (a : Addr) (u : Value) (h0 : Heap) (n0 : Nat) (v : Option Value) (h : Heap) (L : List Loc) : Prop := v = none ∧ Fr n0 L ∧ Wr h0 h a (Jvm.RoadKit.slotOf Z "java/util/AbstractList" "modCount" "I") (.int 0)
theorem pn_java_util_AbstractList : plainName "java/util/AbstractList" = true := by first | (simp [plainName, overriddenIn]; done) | decide +kernel
theorem ef_rm12 (m : MethodId) (a : Addr)  : entryFrame m #[(.ref a)] 1 = mkF m 0 #[.val (.ref a)] [] := by first | (simp [entryFrame, mkF, argsToLocals, Value.category]; done) | rfl
theorem rm12 (l : Launch) (Z : State) (a0 : Array Value) (hw : TW a0 Z) (ws : List Cond) (a : Addr) (u : Value) (h0 : Heap) (n0 : Nat) (Z0 : n0 ≤ h0.size) (E : Exa Z h0 a "java/util/ArrayList") (F : Fld Z h0 a "java/util/AbstractList" "modCount" "I" u) (g : n0 ≤ a) :
    own_MF l Z (⟨"java/util/AbstractList", "<init>", "()V"⟩ : MethodName) jdk_39_method_1_code 1 none ws (own_R 2 0 0 24) #[(.ref a)] h0 (Q_rm12 Z a u h0 n0) := by
  have wd := @own_wd _ _ hw
  refine MetFree.of_bodySF (plainFor_of_name pn_java_util_AbstractList) hisR ?_
  intro p e s m args below meth c s₁ Bd hml0 hP hK
  obtain ⟨rfl, hZ, hh⟩ := hP
  have hx := Bd.exec
  have hby := Bd.bytes
  have hml : c.maxLocals = 1 := hml0
  have hown : s.vm.findClass "java/util/AbstractList" = some m.cls := findClass_of_methodNamed Bd.named
  have hnm := (name_of_methodNamed Bd.named Bd.method).1
  have X0 : Stand p l e (own_R 2 0 0 24) s m #[(.ref a)] below meth c s₁ [] 0 0 := Stand.of_body Bd
  have e0 : s₁.heap = h0 := by rw [← hh, Bd.state]; rfl
  have N0 := Fr.nil n0
  refine go_of (A := s₁.setTop (entryFrame m #[(.ref a)] 1)) (B := s₁.setTop (mkF m 0 #[.val (.ref a)] [])) (fun _ kk' => castTop (ef_rm12 m a) kk') ?_
  refine go_of (B := (s₁.setTop (mkF m 1 #[.val (.ref a)] [(.ref a)]))) (fun _ kk => XS.aloadN X0.here hx rfl (hb hby d12_0) rfl rfl kk) ?_
  obtain ⟨_, _, ⟨T1, L1, k1, n1⟩, -, X1, ⟨Lc1, hQ1, l1, y1, z1⟩, st1⟩ := X0.specialBack hx (y := MN9) rfl hown (mvT hZ (wd 104 rfl)) (mvT hZ (wd 105 rfl)) (mvT hZ (wd 109 rfl)) (by decide) (backOf (W := 0) (rm13 l Z a0 hw [] a h0 n0 Z0) hZ (wd 109 rfl) (wd 108 rfl) (by decide) (by decide)) (g := (mkF m 1 #[.val (.ref a)] [(.ref a)])) rfl (by rw [hml]; rfl) (Steps.refl _) (a := a) (argsL := []) (rest := []) (lenOf pd___V rfl) rfl (Nat.le_of_eq rfl) (hb hby d12_1) (fun _ _ => ⟨rfl, e0, (by decide : 0 + 0 ≤ _), (by decide : 0 + 0 ≤ _)⟩)
  dsimp only [Pt.U, Pt.locs, Pt.cells, Pt.slots] at X1 l1 y1 z1 st1 hQ1
  subst l1 y1 z1
  obtain ⟨rfl, N1q, e1⟩ := hQ1
  have N1 := Fr.app N0 N1q
  refine go_tr (B := (T1.setTop (mkF m 4 #[.val (.ref a)] []))) (st1) ?_
  refine go_of (B := (T1.setTop (mkF m 6 #[.val (.ref a)] [(.int (0 : Int32)), (.ref a)]))) (fun _ kk => XS.aloadN X1.here hx rfl (hb hby d12_4) rfl rfl (XS.iconst X1.here hx rfl (hb hby d12_5) kk)) ?_
  obtain ⟨T2, h2, X2, e2, W2, st2⟩ := putF X1 hx hZ hown (host := "") (Or.inl (wd 111 rfl)) Via.refl e1 F E (Or.inl (wd 112 rfl)) (wd 93 rfl) (ty := .int) (by decide) rfl rfl (g := (mkF m 6 #[.val (.ref a)] [(.int (0 : Int32)), (.ref a)])) rfl rfl (hb hby d12_6)
  have sz2 := W2.size
  have Fw2 := F.same W2
  have N2 := Fr.snoc X2 N1 (g : n0 ≤ a)
  refine go_of (B := (T2.setTop (mkF m 9 #[.val (.ref a)] []))) (st2) ?_
  refine go_end X2 (v := none) (fun _ => rfl) Bd.notSynchronized (by decide) (by decide) (Q := (Q_rm12 Z a u h0 n0)) ?_ (fun fs hr => X2.returnOut hx Bd.returns (hb hby d12_9) hr)
  unfold Q_rm12
  try rw [e2]
  exact ⟨rfl, N2, W2⟩
theorem d11_0 : decode jdk_38_method_2_code 0 = .ok (.aload_n 0, 1) := by decide +kernel
theorem d11_1 : decode jdk_38_method_2_code 1 = .ok (.invokespecial 1, 3) := by decide +kernel
theorem d11_4 : decode jdk_38_method_2_code 4 = .ok (.aload_n 0, 1) := by decide +kernel
theorem d11_5 : decode jdk_38_method_2_code 5 = .ok (.getstatic 39, 3) := by decide +kernel
theorem d11_8 : decode jdk_38_method_2_code 8 = .ok (.putfield 9, 3) := by decide +kernel
theorem d11_11 : decode jdk_38_method_2_code 11 = .ok (.return_, 1) := by decide +kernel
def Q_rm11 (Z : State) (a : Addr) (u : Value) (u2 : Value) (wD : Addr) (h0 : Heap) (n0 : Nat) (v : Option Value) (h : Heap) (L : List Loc) : Prop := v = none ∧ Fr n0 L ∧ Keep h0 h [a] ∧ AL Z h a 0 wD 0
theorem pn_java_util_ArrayList : plainName "java/util/ArrayList" = true := by first | (simp [plainName, overriddenIn]; done) | decide +kernel
theorem ef_rm11 (m : MethodId) (a : Addr)  : entryFrame m #[(.ref a)] 1 = mkF m 0 #[.val (.ref a)] [] := by first | (simp [entryFrame, mkF, argsToLocals, Value.category]; done) | rfl
theorem rm11 (l : Launch) (Z : State) (a0 : Array Value) (hw : TW a0 Z) (ws : List Cond) (a : Addr) (u : Value) (u2 : Value) (wD : Addr) (h0 : Heap) (n0 : Nat) (Z0 : n0 ≤ h0.size) (E : Exa Z h0 a "java/util/ArrayList") (F : Fld Z h0 a "java/util/AbstractList" "modCount" "I" u) (Fd : Fld Z h0 a "java/util/ArrayList" "elementData" "[Ljava/lang/Object;" u2) (Fs : Fld Z h0 a "java/util/ArrayList" "size" "I" (.int 0)) (g : n0 ≤ a) (O : Old Z n0 h0) (S : Sta Z Z.heap "java/util/ArrayList" "DEFAULTCAPACITY_EMPTY_ELEMENTDATA" "[Ljava/lang/Object;" (.ref wD)) :
    own_MF l Z MN10 jdk_38_method_2_code 1 none ws (own_R 3 0 0 36) #[(.ref a)] h0 (Q_rm11 Z a u u2 wD h0 n0) := by
  have wd := @own_wd _ _ hw
  refine MetFree.of_bodySF (plainFor_of_name pn_java_util_ArrayList) hisR ?_
  intro p e s m args below meth c s₁ Bd hml0 hP hK
  obtain ⟨rfl, hZ, hh⟩ := hP
  have hx := Bd.exec
  have hby := Bd.bytes
  have hml : c.maxLocals = 1 := hml0
  have hown : s.vm.findClass "java/util/ArrayList" = some m.cls := findClass_of_methodNamed Bd.named
  have hnm := (name_of_methodNamed Bd.named Bd.method).1
  have X0 : Stand p l e (own_R 3 0 0 36) s m #[(.ref a)] below meth c s₁ [] 0 0 := Stand.of_body Bd
  have e0 : s₁.heap = h0 := by rw [← hh, Bd.state]; rfl
  have N0 := Fr.nil n0
  refine go_of (A := s₁.setTop (entryFrame m #[(.ref a)] 1)) (B := s₁.setTop (mkF m 0 #[.val (.ref a)] [])) (fun _ kk' => castTop (ef_rm11 m a) kk') ?_
  refine go_of (B := (s₁.setTop (mkF m 1 #[.val (.ref a)] [(.ref a)]))) (fun _ kk => XS.aloadN X0.here hx rfl (hb hby d11_0) rfl rfl kk) ?_
  obtain ⟨_, _, ⟨T1, L1, k1, n1⟩, -, X1, ⟨Lc1, hQ1, l1, y1, z1⟩, st1⟩ := X0.specialBack hx (y := (⟨"java/util/AbstractList", "<init>", "()V"⟩ : MethodName)) rfl hown (mvT hZ (wd 98 rfl)) (mvT hZ (wd 99 rfl)) (mvT hZ (wd 103 rfl)) (by decide) (backOf (W := 0) (rm12 l Z a0 hw [] a u h0 n0 Z0 E F g) hZ (wd 103 rfl) (wd 102 rfl) (by decide) (by decide)) (g := (mkF m 1 #[.val (.ref a)] [(.ref a)])) rfl (by rw [hml]; rfl) (Steps.refl _) (a := a) (argsL := []) (rest := []) (lenOf pd___V rfl) rfl (Nat.le_of_eq rfl) (hb hby d11_1) (fun _ _ => ⟨rfl, e0, (by decide : 0 + 0 ≤ _), (by decide : 0 + 0 ≤ _)⟩)
  dsimp only [Pt.U, Pt.locs, Pt.cells, Pt.slots] at X1 l1 y1 z1 st1 hQ1
  subst l1 y1 z1
  obtain ⟨rfl, N1q, W1⟩ := hQ1
  have N1 := Fr.app N0 N1q
  have sz1 := W1.size
  have Fw1 := F.same W1
  refine go_tr (B := (T1.setTop (mkF m 4 #[.val (.ref a)] []))) (st1) ?_
  refine go_of (B := (T1.setTop (mkF m 5 #[.val (.ref a)] [(.ref a)]))) (fun _ kk => XS.aloadN X1.here hx rfl (hb hby d11_4) rfl rfl kk) ?_
  have cf_2 := (O.wr W1 (by first | omega | exact own_ne (by omega) | exact own_le (by omega)))
  obtain ⟨T3, X3, e3, st3⟩ := getS2 X1 hx hZ hown (host := "") (Or.inl (wd 113 rfl)) Via.refl rfl (S.ext cf_2.2) (g := (mkF m 5 #[.val (.ref a)] [(.ref a)])) rfl (hb hby d11_5)
  refine go_of (B := (T3.setTop (mkF m 8 #[.val (.ref a)] [(.ref wD), (.ref a)]))) (st3) ?_
  have cf_4 := (E.wr W1)
  have cf_5 := (Fd.other W1 (Or.inr (slot_ne (Or.inl (wd 115 rfl)) (Or.inl (wd 112 rfl)) (by decide) (t := (.array (.object "java/lang/Object"))) (t' := .int) (by decide) (by decide))))
  obtain ⟨T6, h6, X6, e6, W6, st6⟩ := putF X3 hx hZ hown (host := "") (Or.inl (wd 114 rfl)) Via.refl e3 cf_5 cf_4 (Or.inl (wd 115 rfl)) (wd 93 rfl) (ty := (.array (.object "java/lang/Object"))) (by decide) rfl rfl (g := (mkF m 8 #[.val (.ref a)] [(.ref wD), (.ref a)])) rfl rfl (hb hby d11_8)
  have sz6 := W6.size
  have Fw6 := cf_5.same W6
  have N6 := Fr.snoc X6 N1 (g : n0 ≤ a)
  refine go_of (B := (T6.setTop (mkF m 11 #[.val (.ref a)] []))) (st6) ?_
  have cf_7 := (cf_4.wr W6)
  have cf_8 := (Fw1.other W6 (Or.inr (slot_ne (Or.inl (wd 112 rfl)) (Or.inl (wd 115 rfl)) (by decide) (t := .int) (t' := (.array (.object "java/lang/Object"))) (by decide) (by decide))))
  have cf_9 := ((Fs.other W1 (Or.inr (slot_ne (Or.inl (wd 124 rfl)) (Or.inl (wd 112 rfl)) (by decide) (t := .int) (t' := .int) (by decide) (by decide)))).other W6 (Or.inr (slot_ne (Or.inl (wd 124 rfl)) (Or.inl (wd 115 rfl)) (by decide) (t := .int) (t' := (.array (.object "java/lang/Object"))) (by decide) (by decide))))
  refine go_end X6 (v := none) (fun _ => rfl) Bd.notSynchronized (by decide) (by decide) (Q := (Q_rm11 Z a u u2 wD h0 n0)) ?_ (fun fs hr => X6.returnOut hx Bd.returns (hb hby d11_11) hr)
  unfold Q_rm11
  try rw [e6]
  exact ⟨rfl, N6, (((Keep.refl h0 [a]).wr W1 (Or.inl (List.mem_of_getElem? (i := 0) rfl))).wr W6 (Or.inl (List.mem_of_getElem? (i := 0) rfl))), ⟨cf_7, cf_8, Fw6, cf_9⟩⟩
def own_max (x y : Int32) : Int32 := if x < y then y else x
theorem d18_0 : decode jdk_29_method_65_code 0 = .ok (.iload_n 0, 1) := by decide +kernel
theorem d18_1 : decode jdk_29_method_65_code 1 = .ok (.iload_n 1, 1) := by decide +kernel
theorem d18_2 : decode jdk_29_method_65_code 2 = .ok (.if_icmp .lt 7, 3) := by decide +kernel
theorem d18_9 : decode jdk_29_method_65_code 9 = .ok (.iload_n 1, 1) := by decide +kernel
theorem d18_10 : decode jdk_29_method_65_code 10 = .ok (.ireturn, 1) := by decide +kernel
def Q_rm18 (Z : State) (x : Int32) (y : Int32) (r : Int32) (h0 : Heap) (n0 : Nat) (v : Option Value) (h : Heap) (L : List Loc) : Prop := v = some (.int r) ∧ Fr n0 L ∧ h = h0
theorem d18_5 : decode jdk_29_method_65_code 5 = .ok (.iload_n 0, 1) := by decide +kernel
theorem d18_6 : decode jdk_29_method_65_code 6 = .ok (.goto 4, 3) := by decide +kernel
theorem ef_rm18 (m : MethodId) (x : Int32) (y : Int32)  : entryFrame m #[(.int x), (.int y)] 2 = mkF m 0 #[.val (.int x), .val (.int y)] [] := by first | (simp [entryFrame, mkF, argsToLocals, Value.category]; done) | rfl
theorem rm18 (l : Launch) (Z : State) (a0 : Array Value) (hw : TW a0 Z) (ws : List Cond) (x : Int32) (y : Int32) (r : Int32) (h0 : Heap) (n0 : Nat) (Z0 : n0 ≤ h0.size) (hr : own_max x y = r) :
    own_MF l Z (⟨"java/lang/Math", "max", "(II)I"⟩ : MethodName) jdk_29_method_65_code 2 (some .int) ws (own_R 0 0 0 0) #[(.int x), (.int y)] h0 (Q_rm18 Z x y r h0 n0) := by
  have wd := @own_wd _ _ hw
  refine MetFree.of_bodySF (Jvm.Free.JP.mathPlain rfl (by decide +kernel)) hisR ?_
  intro p e s m args below meth c s₁ Bd hml0 hP hK
  obtain ⟨rfl, hZ, hh⟩ := hP
  have hx := Bd.exec
  have hby := Bd.bytes
  have hml : c.maxLocals = 2 := hml0
  have hown : s.vm.findClass "java/lang/Math" = some m.cls := findClass_of_methodNamed Bd.named
  have hnm := (name_of_methodNamed Bd.named Bd.method).1
  have X0 : Stand p l e (own_R 0 0 0 0) s m #[(.int x), (.int y)] below meth c s₁ [] 0 0 := Stand.of_body Bd
  have e0 : s₁.heap = h0 := by rw [← hh, Bd.state]; rfl
  have N0 := Fr.nil n0
  refine go_of (A := s₁.setTop (entryFrame m #[(.int x), (.int y)] 2)) (B := s₁.setTop (mkF m 0 #[.val (.int x), .val (.int y)] [])) (fun _ kk' => castTop (ef_rm18 m x y) kk') ?_
  refine go_of (B := (s₁.setTop (mkF m 2 #[.val (.int x), .val (.int y)] [(.int y), (.int x)]))) (fun _ kk => XS.iloadN X0.here hx rfl (hb hby d18_0) rfl (XS.iloadN X0.here hx rfl (hb hby d18_1) rfl kk)) ?_
  by_cases hcc1 : x < y
  · refine go_of (B := (s₁.setTop (mkF m 10 #[.val (.int x), .val (.int y)] [(.int y)]))) (fun _ kk => XS.icmpYes X0.here hx rfl (pc0 := 2) (pc' := 9) rfl (hb hby d18_2) rfl (tlt hcc1).1 (by decide) (by decide) (XS.iloadN X0.here hx rfl (hb hby d18_9) rfl kk)) ?_
    refine go_end X0 (v := some (.int y)) (fun h => by rw [Bd.returns] at h; cases h) Bd.notSynchronized (by decide) (by decide) (Q := (Q_rm18 Z x y r h0 n0)) ?_ (fun fs hr => own_retI X0 hx Bd.returns (hb hby d18_10) hr)
    unfold Q_rm18
    try rw [e0]
    refine ⟨?_, N0, rfl⟩
    rw [← hr]; simp [own_max, hcc1]
  · refine go_of (B := (s₁.setTop (mkF m 10 #[.val (.int x), .val (.int y)] [(.int x)]))) (fun _ kk => XS.icmpNo X0.here hx rfl (hb hby d18_2) rfl (flt hcc1).1 (XS.iloadN X0.here hx rfl (hb hby d18_5) rfl (XS.goto X0.here hx rfl (pc0 := 6) (pc' := 10) rfl (hb hby d18_6) (by decide) (by decide) kk))) ?_
    refine go_end X0 (v := some (.int x)) (fun h => by rw [Bd.returns] at h; cases h) Bd.notSynchronized (by decide) (by decide) (Q := (Q_rm18 Z x y r h0 n0)) ?_ (fun fs hr => own_retI X0 hx Bd.returns (hb hby d18_10) hr)
    unfold Q_rm18
    try rw [e0]
    refine ⟨?_, N0, rfl⟩
    rw [← hr]; simp [own_max, hcc1]
theorem d17_0 : decode jdk_38_method_6_code 0 = .ok (.aload_n 0, 1) := by decide +kernel
theorem d17_1 : decode jdk_38_method_6_code 1 = .ok (.getfield 9, 3) := by decide +kernel
theorem d17_4 : decode jdk_38_method_6_code 4 = .ok (.arraylength, 1) := by decide +kernel
theorem d17_5 : decode jdk_38_method_6_code 5 = .ok (.istore_n 2, 1) := by decide +kernel
theorem d17_6 : decode jdk_38_method_6_code 6 = .ok (.iload_n 2, 1) := by decide +kernel
theorem d17_7 : decode jdk_38_method_6_code 7 = .ok (.ifCond .gt 13, 3) := by decide +kernel
theorem d17_10 : decode jdk_38_method_6_code 10 = .ok (.aload_n 0, 1) := by decide +kernel
theorem d17_11 : decode jdk_38_method_6_code 11 = .ok (.getfield 9, 3) := by decide +kernel
theorem d17_14 : decode jdk_38_method_6_code 14 = .ok (.getstatic 39, 3) := by decide +kernel
theorem d17_17 : decode jdk_38_method_6_code 17 = .ok (.if_acmp .eq 28, 3) := by decide +kernel
theorem d17_45 : decode jdk_38_method_6_code 45 = .ok (.aload_n 0, 1) := by decide +kernel
theorem d17_46 : decode jdk_38_method_6_code 46 = .ok (.bipush 10, 2) := by decide +kernel
theorem d17_48 : decode jdk_38_method_6_code 48 = .ok (.iload_n 1, 1) := by decide +kernel
theorem d17_49 : decode jdk_38_method_6_code 49 = .ok (.invokestatic 79, 3) := by decide +kernel
theorem pd__II_I : parseMethodDescriptor "(II)I" = some ⟨[.int, .int], some .int⟩ := by decide +kernel
theorem d17_52 : decode jdk_38_method_6_code 52 = .ok (.anewarray 7, 3) := by decide +kernel
theorem d17_55 : decode jdk_38_method_6_code 55 = .ok (.dup_x1, 1) := by decide +kernel
theorem d17_56 : decode jdk_38_method_6_code 56 = .ok (.putfield 9, 3) := by decide +kernel
theorem d17_59 : decode jdk_38_method_6_code 59 = .ok (.areturn, 1) := by decide +kernel
def Q_rm17 (Z : State) (a : Addr) (mc : Int32) (wD : Addr) (kD : ClassId) (h0 : Heap) (n0 : Nat) (v : Option Value) (h : Heap) (L : List Loc) : Prop := ∃ (b : Addr) (k : ClassId), v = some (.ref b) ∧ Fr n0 L ∧ h0.size ≤ b ∧ Keep h0 h [a] ∧ AL Z h a mc b 0 ∧ Arv Z h b k (.object "java/lang/Object") 10 [.null, .null, .null, .null, .null, .null, .null, .null, .null, .null] .null ∧ Ovr Z k "java/lang/Object" ∧ Exa Z h b "[Ljava/lang/Object;"
theorem ef_rm17 (m : MethodId) (a : Addr)  : entryFrame m #[(.ref a), (.int (1 : Int32))] 4 = mkF m 0 #[.val (.ref a), .val (.int (1 : Int32)), .unset, .unset] [] := by first | (simp [entryFrame, mkF, argsToLocals, Value.category]; done) | rfl
theorem rm17 (l : Launch) (Z : State) (a0 : Array Value) (hw : TW a0 Z) (ws : List Cond) (a : Addr) (mc : Int32) (wD : Addr) (kD : ClassId) (h0 : Heap) (n0 : Nat) (Z0 : n0 ≤ h0.size) (A : AL Z h0 a mc wD 0) (g : n0 ≤ a) (O : Old Z n0 h0) (S : Sta Z Z.heap "java/util/ArrayList" "DEFAULTCAPACITY_EMPTY_ELEMENTDATA" "[Ljava/lang/Object;" (.ref wD)) (VD : Arv Z h0 wD kD (.object "java/lang/Object") 0 [] .null) (D0 : wD < n0) :
    own_MF l Z (⟨"java/util/ArrayList", "grow", "(I)[Ljava/lang/Object;"⟩ : MethodName) jdk_38_method_6_code 4 (some (.array (.object "java/lang/Object"))) ws (own_R 1 1 10 14) #[(.ref a), (.int (1 : Int32))] h0 (Q_rm17 Z a mc wD kD h0 n0) := by
  have wd := @own_wd _ _ hw
  refine MetFree.of_bodySF (plainFor_of_name pn_java_util_ArrayList) hisR ?_
  intro p e s m args below meth c s₁ Bd hml0 hP hK
  obtain ⟨rfl, hZ, hh⟩ := hP
  have hx := Bd.exec
  have hby := Bd.bytes
  have hml : c.maxLocals = 4 := hml0
  have hown : s.vm.findClass "java/util/ArrayList" = some m.cls := findClass_of_methodNamed Bd.named
  have hnm := (name_of_methodNamed Bd.named Bd.method).1
  have X0 : Stand p l e (own_R 1 1 10 14) s m #[(.ref a), (.int (1 : Int32))] below meth c s₁ [] 0 0 := Stand.of_body Bd
  have e0 : s₁.heap = h0 := by rw [← hh, Bd.state]; rfl
  have N0 := Fr.nil n0
  have lta := own_nlt (A.1.lt)
  have ltD := own_nlt (VD.lt)
  have D0' := own_nlt D0
  refine go_of (A := s₁.setTop (entryFrame m #[(.ref a), (.int (1 : Int32))] 4)) (B := s₁.setTop (mkF m 0 #[.val (.ref a), .val (.int (1 : Int32)), .unset, .unset] [])) (fun _ kk' => castTop (ef_rm17 m a) kk') ?_
  refine go_of (B := (s₁.setTop (mkF m 1 #[.val (.ref a), .val (.int (1 : Int32)), .unset, .unset] [(.ref a)]))) (fun _ kk => XS.aloadN X0.here hx rfl (hb hby d17_0) rfl rfl kk) ?_
  obtain ⟨T1, X1, e1, st1⟩ := getF X0 hx hZ hown (host := "") (Or.inl (wd 114 rfl)) Via.refl e0 A.2.2.1 (g := (mkF m 1 #[.val (.ref a), .val (.int (1 : Int32)), .unset, .unset] [(.ref a)])) rfl rfl (hb hby d17_1)
  refine go_of (B := (T1.setTop (mkF m 4 #[.val (.ref a), .val (.int (1 : Int32)), .unset, .unset] [(.ref wD)]))) (st1) ?_
  obtain ⟨cl2, Ar2, q2, Sz2, Nn2, Hh2, G2⟩ := id (VD)
  have ln2 := len_of Sz2 Nn2
  refine go_of (B := (T1.setTop (mkF m 5 #[.val (.ref a), .val (.int (1 : Int32)), .unset, .unset] [(.int (0 : Int32))]))) (fun _ kk => X1.arraylength hx (by rw [e1]; exact Ar2.1) (State.isArrayOf_alike hZ.alike Ar2.2.1) (g := (mkF m 4 #[.val (.ref a), .val (.int (1 : Int32)), .unset, .unset] [(.ref wD)])) rfl rfl (hb hby d17_4) _ (by rw [ln2]; exact kk)) ?_
  refine go_of (B := (T1.setTop (mkF m 11 #[.val (.ref a), .val (.int (1 : Int32)), .val (.int (0 : Int32)), .unset] [(.ref a)]))) (fun _ kk => XS.istoreN X1.here hx rfl (hb hby d17_5) rfl rfl (XS.iloadN X1.here hx rfl (hb hby d17_6) rfl (XS.ifNo X1.here hx rfl (hb hby d17_7) rfl ((if0 _ _).trans (flt (by decide : ¬ ((0 : Int32) < (0 : Int32)))).2.2.1) (XS.aloadN X1.here hx rfl (hb hby d17_10) rfl rfl kk)))) ?_
  obtain ⟨T3, X3, e3, st3⟩ := getF X1 hx hZ hown (host := "") (Or.inl (wd 114 rfl)) Via.refl e1 A.2.2.1 (g := (mkF m 11 #[.val (.ref a), .val (.int (1 : Int32)), .val (.int (0 : Int32)), .unset] [(.ref a)])) rfl rfl (hb hby d17_11)
  refine go_of (B := (T3.setTop (mkF m 14 #[.val (.ref a), .val (.int (1 : Int32)), .val (.int (0 : Int32)), .unset] [(.ref wD)]))) (st3) ?_
  obtain ⟨T4, X4, e4, st4⟩ := getS2 X3 hx hZ hown (host := "") (Or.inl (wd 113 rfl)) Via.refl e3 (S.ext O.2) (g := (mkF m 14 #[.val (.ref a), .val (.int (1 : Int32)), .val (.int (0 : Int32)), .unset] [(.ref wD)])) rfl (hb hby d17_14)
  refine go_of (B := (T4.setTop (mkF m 17 #[.val (.ref a), .val (.int (1 : Int32)), .val (.int (0 : Int32)), .unset] [(.ref wD), (.ref wD)]))) (st4) ?_
  refine go_of (B := (T4.setTop (mkF m 49 #[.val (.ref a), .val (.int (1 : Int32)), .val (.int (0 : Int32)), .unset] [(.int (1 : Int32)), (.int (10 : Int32)), (.ref a)]))) (fun _ kk => Jvm.RoadKit.acmp (g := (mkF m 17 #[.val (.ref a), .val (.int (1 : Int32)), .val (.int (0 : Int32)), .unset] [(.ref wD), (.ref wD)])) X4 hx rfl rfl rfl (pc0 := 17) (pc' := 45) (same := true) rfl (hb hby d17_17) rfl (decide_eq_true rfl) (by decide) (by decide) (XS.aloadN X4.here hx rfl (hb hby d17_45) rfl rfl (XS.bipush X4.here hx rfl (hb hby d17_46) (XS.iloadN X4.here hx rfl (hb hby d17_48) rfl kk)))) ?_
  obtain ⟨_, _, ⟨T5, L5, k5, n5⟩, -, X5, ⟨Lc5, hQ5, l5, y5, z5⟩, st5⟩ := Jvm.LawKit.callS X4 hx (y := (⟨"java/lang/Math", "max", "(II)I"⟩ : MethodName)) hown (mvT hZ (wd 140 rfl)) (mvT hZ (wd 141 rfl)) (mvT hZ (wd 142 rfl)) (mvT hZ (wd 143 rfl)) (by decide) (backOf (W := 1) (rm18 l Z a0 hw [] (10 : Int32) (1 : Int32) (10 : Int32) h0 n0 (by omega) (by decide)) hZ (wd 143 rfl) (wd 142 rfl) (by decide) (by decide)) (g := (mkF m 49 #[.val (.ref a), .val (.int (1 : Int32)), .val (.int (0 : Int32)), .unset] [(.int (1 : Int32)), (.int (10 : Int32)), (.ref a)])) rfl (by rw [hml]; rfl) (argsL := [(.int (10 : Int32)), (.int (1 : Int32))]) (rest := [(.ref a)]) (lenOf pd__II_I rfl) rfl (Nat.le_of_eq rfl) (hb hby d17_49) (fun _ _ => ⟨rfl, e4, (by decide : 0 + 0 ≤ _), (by decide : 0 + 0 ≤ _)⟩)
  dsimp only [Pt.U, Pt.locs, Pt.cells, Pt.slots] at X5 l5 y5 z5 st5 hQ5
  subst l5 y5 z5
  obtain ⟨rfl, N5q, e5⟩ := hQ5
  have N5 := Fr.app N0 N5q
  refine go_of (B := (T5.setTop (mkF m 52 #[.val (.ref a), .val (.int (1 : Int32)), .val (.int (0 : Int32)), .unset] [(.int (10 : Int32)), (.ref a)]))) (st5) ?_
  obtain ⟨T6, h6, k6, X6, e6, E6, A6, EA6, O6, st6⟩ := newRE X5 hx hZ hown (wd 144 rfl) (wd 145 rfl) e5 (g := (mkF m 52 #[.val (.ref a), .val (.int (1 : Int32)), .val (.int (0 : Int32)), .unset] [(.int (10 : Int32)), (.ref a)])) rfl (hb hby d17_52) rfl (by decide) (cap := 10) (by decide) (by decide) (by decide) (by decide) (ad := "[Ljava/lang/Object;") (by decide)
  obtain ⟨b6, g6⟩ : ∃ z, z = h0.size := ⟨_, rfl⟩
  rw [← g6] at A6 st6 EA6
  have hi6 := own_nlt A6.lt
  have sz6 := E6.1
  have V6 : Arv Z h6 b6 k6 (.object "java/lang/Object") (10 : Int32) [.null, .null, .null, .null, .null, .null, .null, .null, .null, .null] .null := (Arv.new A6 (by decide)).pad (pad_rep [] .null 10)
  refine go_of (B := (T6.setTop (mkF m 55 #[.val (.ref a), .val (.int (1 : Int32)), .val (.int (0 : Int32)), .unset] [(.ref b6), (.ref a)]))) (st6) ?_
  refine go_of (B := (T6.setTop (mkF m 56 #[.val (.ref a), .val (.int (1 : Int32)), .val (.int (0 : Int32)), .unset] [(.ref b6), (.ref a), (.ref b6)]))) (fun _ kk => XS.dupX1 X6.here hx rfl (hb hby d17_55) rfl rfl rfl kk) ?_
  have cf_7 := (A.1.ext E6)
  have cf_8 := (A.2.2.1.ext E6)
  obtain ⟨T9, h9, X9, e9, W9, st9⟩ := putF X6 hx hZ hown (host := "") (Or.inl (wd 114 rfl)) Via.refl e6 cf_8 cf_7 (Or.inl (wd 115 rfl)) (wd 93 rfl) (ty := (.array (.object "java/lang/Object"))) (by decide) rfl rfl (g := (mkF m 56 #[.val (.ref a), .val (.int (1 : Int32)), .val (.int (0 : Int32)), .unset] [(.ref b6), (.ref a), (.ref b6)])) rfl rfl (hb hby d17_56)
  have sz9 := W9.size
  have Fw9 := cf_8.same W9
  have N9 := Fr.snoc X9 N5 (g : n0 ≤ a)
  refine go_of (B := (T9.setTop (mkF m 59 #[.val (.ref a), .val (.int (1 : Int32)), .val (.int (0 : Int32)), .unset] [(.ref b6)]))) (st9) ?_
  have cf_10 := (V6.other W9 (by first | omega | exact own_ne (by omega) | exact own_le (by omega)))
  have cf_11 := (cf_7.wr W9)
  have cf_12 := ((A.2.1.ext E6).other W9 (Or.inr (slot_ne (Or.inl (wd 112 rfl)) (Or.inl (wd 115 rfl)) (by decide) (t := .int) (t' := (.array (.object "java/lang/Object"))) (by decide) (by decide))))
  have cf_13 := ((A.2.2.2.ext E6).other W9 (Or.inr (slot_ne (Or.inl (wd 124 rfl)) (Or.inl (wd 115 rfl)) (by decide) (t := .int) (t' := (.array (.object "java/lang/Object"))) (by decide) (by decide))))
  have cf_14 := (EA6.wr W9)
  refine go_end X9 (v := some (.ref b6)) (fun h => by rw [Bd.returns] at h; cases h) Bd.notSynchronized (by decide) (by decide) (Q := (Q_rm17 Z a mc wD kD h0 n0)) ?_ (fun fs hr => own_retA X9 hx Bd.returns rfl rfl (hb hby d17_59) hr)
  unfold Q_rm17
  try rw [e9]
  exact ⟨b6, k6, rfl, N9, by omega, (((Keep.refl h0 [a]).ext E6).wr W9 (Or.inl (List.mem_of_getElem? (i := 0) rfl))), ⟨cf_11, cf_12, Fw9, cf_13⟩, cf_10, O6, cf_14⟩
theorem d16_0 : decode jdk_38_method_7_code 0 = .ok (.aload_n 0, 1) := by decide +kernel
theorem d16_1 : decode jdk_38_method_7_code 1 = .ok (.aload_n 0, 1) := by decide +kernel
theorem d16_2 : decode jdk_38_method_7_code 2 = .ok (.getfield 48, 3) := by decide +kernel
theorem d16_5 : decode jdk_38_method_7_code 5 = .ok (.iconst 1, 1) := by decide +kernel
theorem d16_6 : decode jdk_38_method_7_code 6 = .ok (.iadd, 1) := by decide +kernel
theorem d16_7 : decode jdk_38_method_7_code 7 = .ok (.invokevirtual 69, 3) := by decide +kernel
theorem pd__I__Ljava_lang_Object_ : parseMethodDescriptor "(I)[Ljava/lang/Object;" = some ⟨[.int], some (.array (.object "java/lang/Object"))⟩ := by decide +kernel
theorem d16_10 : decode jdk_38_method_7_code 10 = .ok (.areturn, 1) := by decide +kernel
def Q_rm16 (Z : State) (a : Addr) (mc : Int32) (wD : Addr) (kD : ClassId) (h0 : Heap) (n0 : Nat) (v : Option Value) (h : Heap) (L : List Loc) : Prop := ∃ (b : Addr) (k : ClassId), v = some (.ref b) ∧ Fr n0 L ∧ h0.size ≤ b ∧ Keep h0 h [a] ∧ AL Z h a mc b 0 ∧ Arv Z h b k (.object "java/lang/Object") 10 [.null, .null, .null, .null, .null, .null, .null, .null, .null, .null] .null ∧ Ovr Z k "java/lang/Object" ∧ Exa Z h b "[Ljava/lang/Object;"
theorem ef_rm16 (m : MethodId) (a : Addr)  : entryFrame m #[(.ref a)] 1 = mkF m 0 #[.val (.ref a)] [] := by first | (simp [entryFrame, mkF, argsToLocals, Value.category]; done) | rfl
theorem rm16 (l : Launch) (Z : State) (a0 : Array Value) (hw : TW a0 Z) (ws : List Cond) (a : Addr) (mc : Int32) (wD : Addr) (kD : ClassId) (h0 : Heap) (n0 : Nat) (Z0 : n0 ≤ h0.size) (A : AL Z h0 a mc wD 0) (g : n0 ≤ a) (O : Old Z n0 h0) (S : Sta Z Z.heap "java/util/ArrayList" "DEFAULTCAPACITY_EMPTY_ELEMENTDATA" "[Ljava/lang/Object;" (.ref wD)) (VD : Arv Z h0 wD kD (.object "java/lang/Object") 0 [] .null) (D0 : wD < n0) :
    own_MF l Z (⟨"java/util/ArrayList", "grow", "()[Ljava/lang/Object;"⟩ : MethodName) jdk_38_method_7_code 1 (some (.array (.object "java/lang/Object"))) ws (own_R 2 1 10 29) #[(.ref a)] h0 (Q_rm16 Z a mc wD kD h0 n0) := by
  have wd := @own_wd _ _ hw
  refine MetFree.of_bodySF (plainFor_of_name pn_java_util_ArrayList) hisR ?_
  intro p e s m args below meth c s₁ Bd hml0 hP hK
  obtain ⟨rfl, hZ, hh⟩ := hP
  have hx := Bd.exec
  have hby := Bd.bytes
  have hml : c.maxLocals = 1 := hml0
  have hown : s.vm.findClass "java/util/ArrayList" = some m.cls := findClass_of_methodNamed Bd.named
  have hnm := (name_of_methodNamed Bd.named Bd.method).1
  have X0 : Stand p l e (own_R 2 1 10 29) s m #[(.ref a)] below meth c s₁ [] 0 0 := Stand.of_body Bd
  have e0 : s₁.heap = h0 := by rw [← hh, Bd.state]; rfl
  have N0 := Fr.nil n0
  refine go_of (A := s₁.setTop (entryFrame m #[(.ref a)] 1)) (B := s₁.setTop (mkF m 0 #[.val (.ref a)] [])) (fun _ kk' => castTop (ef_rm16 m a) kk') ?_
  refine go_of (B := (s₁.setTop (mkF m 2 #[.val (.ref a)] [(.ref a), (.ref a)]))) (fun _ kk => XS.aloadN X0.here hx rfl (hb hby d16_0) rfl rfl (XS.aloadN X0.here hx rfl (hb hby d16_1) rfl rfl kk)) ?_
  obtain ⟨T1, X1, e1, st1⟩ := getF X0 hx hZ hown (host := "") (Or.inl (wd 123 rfl)) Via.refl e0 A.2.2.2 (g := (mkF m 2 #[.val (.ref a)] [(.ref a), (.ref a)])) rfl rfl (hb hby d16_2)
  refine go_of (B := (T1.setTop (mkF m 5 #[.val (.ref a)] [(.int (0 : Int32)), (.ref a)]))) (st1) ?_
  refine go_of (B := (T1.setTop (mkF m 7 #[.val (.ref a)] [(.int (1 : Int32)), (.ref a)]))) (fun _ kk => XS.iconst X1.here hx rfl (hb hby d16_5) (XS.iadd X1.here hx rfl (hb hby d16_6) rfl kk)) ?_
  obtain ⟨cq2, q2, q2'⟩ := A.1.cell
  obtain ⟨_, _, ⟨T2, L2, k2, n2⟩, -, X2, ⟨Lc2, hQ2, l2, y2, z2⟩, st2⟩ := X1.privateBack hx (y := (⟨"java/util/ArrayList", "grow", "(I)[Ljava/lang/Object;"⟩ : MethodName)) hown (mvT hZ (wd 135 rfl)) (mvT hZ (wd 136 rfl)) (mvT hZ (wd 138 rfl)) (Cond.privateMethod_at (mvP hZ (wd 137 rfl) (args := #[]))) (mvT hZ (wd 139 rfl)) (by decide) (backOf (W := 0) (rm17 l Z a0 hw [] a mc wD kD h0 n0 Z0 A g O S VD D0) hZ (wd 139 rfl) (wd 94 rfl) (by decide) (by decide)) (g := (mkF m 7 #[.val (.ref a)] [(.int (1 : Int32)), (.ref a)])) rfl (by rw [hml]; rfl) (Steps.refl _) (a := a) (by rw [e1]; exact q2) q2' (argsL := [(.int (1 : Int32))]) (rest := []) (lenOf pd__I__Ljava_lang_Object_ rfl) rfl (Nat.le_of_eq rfl) (hb hby d16_7) (fun _ _ => ⟨rfl, e1, (by decide : 0 + 1 ≤ _), (by decide : 0 + 10 ≤ _)⟩)
  dsimp only [Pt.U, Pt.locs, Pt.cells, Pt.slots] at X2 l2 y2 z2 st2 hQ2
  subst l2 y2 z2
  obtain ⟨b2, k2, rfl, N2q, lo2, K2, A2, V2, O2, XE2⟩ := hQ2
  have lo2 := own_nle lo2
  have N2 := Fr.app N0 N2q
  have hi2 := own_nlt (V2.lt)
  have sz2 := K2.1
  refine go_tr (B := (T2.setTop (mkF m 10 #[.val (.ref a)] [(.ref b2)]))) (st2) ?_
  refine go_end X2 (v := some (.ref b2)) (fun h => by rw [Bd.returns] at h; cases h) Bd.notSynchronized (by decide) (by decide) (Q := (Q_rm16 Z a mc wD kD h0 n0)) ?_ (fun fs hr => own_retA X2 hx Bd.returns rfl rfl (hb hby d16_10) hr)
  unfold Q_rm16
  exact ⟨b2, k2, rfl, N2, by omega, ((Keep.refl h0 [a]).trans K2 (allS (Or.inl (List.mem_of_getElem? (i := 0) rfl)) all0)), ⟨A2.1, A2.2.1, A2.2.2.1, A2.2.2.2⟩, V2, O2, XE2⟩
theorem d15_0 : decode jdk_38_method_24_code 0 = .ok (.iload_n 3, 1) := by decide +kernel
theorem d15_1 : decode jdk_38_method_24_code 1 = .ok (.aload_n 2, 1) := by decide +kernel
theorem d15_2 : decode jdk_38_method_24_code 2 = .ok (.arraylength, 1) := by decide +kernel
theorem d15_3 : decode jdk_38_method_24_code 3 = .ok (.if_icmp .ne 8, 3) := by decide +kernel
theorem d15_6 : decode jdk_38_method_24_code 6 = .ok (.aload_n 0, 1) := by decide +kernel
theorem d15_7 : decode jdk_38_method_24_code 7 = .ok (.invokevirtual 129, 3) := by decide +kernel
theorem pd____Ljava_lang_Object_ : parseMethodDescriptor "()[Ljava/lang/Object;" = some ⟨[], some (.array (.object "java/lang/Object"))⟩ := by decide +kernel
theorem d15_10 : decode jdk_38_method_24_code 10 = .ok (.astore_n 2, 1) := by decide +kernel
theorem d15_11 : decode jdk_38_method_24_code 11 = .ok (.aload_n 2, 1) := by decide +kernel
theorem d15_12 : decode jdk_38_method_24_code 12 = .ok (.iload_n 3, 1) := by decide +kernel
theorem d15_13 : decode jdk_38_method_24_code 13 = .ok (.aload_n 1, 1) := by decide +kernel
theorem d15_14 : decode jdk_38_method_24_code 14 = .ok (.aastore, 1) := by decide +kernel
theorem d15_15 : decode jdk_38_method_24_code 15 = .ok (.aload_n 0, 1) := by decide +kernel
theorem d15_16 : decode jdk_38_method_24_code 16 = .ok (.iload_n 3, 1) := by decide +kernel
theorem d15_17 : decode jdk_38_method_24_code 17 = .ok (.iconst 1, 1) := by decide +kernel
theorem d15_18 : decode jdk_38_method_24_code 18 = .ok (.iadd, 1) := by decide +kernel
theorem d15_19 : decode jdk_38_method_24_code 19 = .ok (.putfield 48, 3) := by decide +kernel
theorem d15_22 : decode jdk_38_method_24_code 22 = .ok (.return_, 1) := by decide +kernel
def Q_addh0 (Z : State) (a : Addr) (x : Addr) (wD : Addr) (mc : Int32) (kD : ClassId) (h0 : Heap) (n0 : Nat) (v : Option Value) (h : Heap) (L : List Loc) : Prop := ∃ (b : Addr) (k : ClassId), v = none ∧ Fr n0 L ∧ h0.size ≤ b ∧ Keep h0 h [a] ∧ AL Z h a mc b 1 ∧ Arv Z h b k (.object "java/lang/Object") 10 [.ref x, .null, .null, .null, .null, .null, .null, .null, .null, .null] .null ∧ Ovr Z k "java/lang/Object" ∧ Exa Z h b "[Ljava/lang/Object;"
theorem ef_addh0 (m : MethodId) (a : Addr) (x : Addr) (wD : Addr)  : entryFrame m #[(.ref a), (.ref x), (.ref wD), (.int (0 : Int32))] 4 = mkF m 0 #[.val (.ref a), .val (.ref x), .val (.ref wD), .val (.int (0 : Int32))] [] := by first | (simp [entryFrame, mkF, argsToLocals, Value.category]; done) | rfl
theorem addh0 (l : Launch) (Z : State) (a0 : Array Value) (hw : TW a0 Z) (ws : List Cond) (a : Addr) (x : Addr) (wD : Addr) (mc : Int32) (kD : ClassId) (h0 : Heap) (n0 : Nat) (Z0 : n0 ≤ h0.size) (A : AL Z h0 a mc wD 0) (g : n0 ≤ a) (O : Old Z n0 h0) (S : Sta Z Z.heap "java/util/ArrayList" "DEFAULTCAPACITY_EMPTY_ELEMENTDATA" "[Ljava/lang/Object;" (.ref wD)) (VD : Arv Z h0 wD kD (.object "java/lang/Object") 0 [] .null) (D0 : wD < n0) (Ix : Ins Z h0 x "java/lang/Object" true) :
    own_MF l Z MN12 jdk_38_method_24_code 4 none ws (own_R 3 1 10 41) #[(.ref a), (.ref x), (.ref wD), (.int (0 : Int32))] h0 (Q_addh0 Z a x wD mc kD h0 n0) := by
  have wd := @own_wd _ _ hw
  refine MetFree.of_bodySF (plainFor_of_name pn_java_util_ArrayList) hisR ?_
  intro p e s m args below meth c s₁ Bd hml0 hP hK
  obtain ⟨rfl, hZ, hh⟩ := hP
  have hx := Bd.exec
  have hby := Bd.bytes
  have hml : c.maxLocals = 4 := hml0
  have hown : s.vm.findClass "java/util/ArrayList" = some m.cls := findClass_of_methodNamed Bd.named
  have hnm := (name_of_methodNamed Bd.named Bd.method).1
  have X0 : Stand p l e (own_R 3 1 10 41) s m #[(.ref a), (.ref x), (.ref wD), (.int (0 : Int32))] below meth c s₁ [] 0 0 := Stand.of_body Bd
  have e0 : s₁.heap = h0 := by rw [← hh, Bd.state]; rfl
  have N0 := Fr.nil n0
  have lta := own_nlt (A.1.lt)
  have ltD := own_nlt (VD.lt)
  have ltx := own_nlt (own_inslt Ix)
  have D0' := own_nlt D0
  refine go_of (A := s₁.setTop (entryFrame m #[(.ref a), (.ref x), (.ref wD), (.int (0 : Int32))] 4)) (B := s₁.setTop (mkF m 0 #[.val (.ref a), .val (.ref x), .val (.ref wD), .val (.int (0 : Int32))] [])) (fun _ kk' => castTop (ef_addh0 m a x wD) kk') ?_
  refine go_of (B := (s₁.setTop (mkF m 2 #[.val (.ref a), .val (.ref x), .val (.ref wD), .val (.int (0 : Int32))] [(.ref wD), (.int (0 : Int32))]))) (fun _ kk => XS.iloadN X0.here hx rfl (hb hby d15_0) rfl (XS.aloadN X0.here hx rfl (hb hby d15_1) rfl rfl kk)) ?_
  obtain ⟨cl1, Ar1, q1, Sz1, Nn1, Hh1, G1⟩ := id (VD)
  have ln1 := len_of Sz1 Nn1
  refine go_of (B := (s₁.setTop (mkF m 3 #[.val (.ref a), .val (.ref x), .val (.ref wD), .val (.int (0 : Int32))] [(.int (0 : Int32)), (.int (0 : Int32))]))) (fun _ kk => X0.arraylength hx (by rw [e0]; exact Ar1.1) (State.isArrayOf_alike hZ.alike Ar1.2.1) (g := (mkF m 2 #[.val (.ref a), .val (.ref x), .val (.ref wD), .val (.int (0 : Int32))] [(.ref wD), (.int (0 : Int32))])) rfl rfl (hb hby d15_2) _ (by rw [ln1]; exact kk)) ?_
  refine go_of (B := (s₁.setTop (mkF m 7 #[.val (.ref a), .val (.ref x), .val (.ref wD), .val (.int (0 : Int32))] [(.ref a)]))) (fun _ kk => XS.icmpNo X0.here hx rfl (hb hby d15_3) rfl (teq (by decide : (0 : Int32) = (0 : Int32))).2 (XS.aloadN X0.here hx rfl (hb hby d15_6) rfl rfl kk)) ?_
  obtain ⟨cq2, q2, q2'⟩ := A.1.cell
  obtain ⟨_, _, ⟨T2, L2, k2, n2⟩, -, X2, ⟨Lc2, hQ2, l2, y2, z2⟩, st2⟩ := X0.privateBack hx (y := (⟨"java/util/ArrayList", "grow", "()[Ljava/lang/Object;"⟩ : MethodName)) hown (mvT hZ (wd 130 rfl)) (mvT hZ (wd 131 rfl)) (mvT hZ (wd 133 rfl)) (Cond.privateMethod_at (mvP hZ (wd 132 rfl) (args := #[]))) (mvT hZ (wd 134 rfl)) (by decide) (backOf (W := 0) (rm16 l Z a0 hw [] a mc wD kD h0 n0 Z0 A g O S VD D0) hZ (wd 134 rfl) (wd 94 rfl) (by decide) (by decide)) (g := (mkF m 7 #[.val (.ref a), .val (.ref x), .val (.ref wD), .val (.int (0 : Int32))] [(.ref a)])) rfl (by rw [hml]; rfl) (Steps.refl _) (a := a) (by rw [e0]; exact q2) q2' (argsL := []) (rest := []) (lenOf pd____Ljava_lang_Object_ rfl) rfl (Nat.le_of_eq rfl) (hb hby d15_7) (fun _ _ => ⟨rfl, e0, (by decide : 0 + 1 ≤ _), (by decide : 0 + 10 ≤ _)⟩)
  dsimp only [Pt.U, Pt.locs, Pt.cells, Pt.slots] at X2 l2 y2 z2 st2 hQ2
  subst l2 y2 z2
  obtain ⟨b2, k2, rfl, N2q, lo2, K2, A2, V2, O2, XE2⟩ := hQ2
  have lo2 := own_nle lo2
  have N2 := Fr.app N0 N2q
  have hi2 := own_nlt (V2.lt)
  have sz2 := K2.1
  refine go_tr (B := (T2.setTop (mkF m 10 #[.val (.ref a), .val (.ref x), .val (.ref wD), .val (.int (0 : Int32))] [(.ref b2)]))) (st2) ?_
  refine go_of (B := (T2.setTop (mkF m 14 #[.val (.ref a), .val (.ref x), .val (.ref b2), .val (.int (0 : Int32))] [(.ref x), (.int (0 : Int32)), (.ref b2)]))) (fun _ kk => XS.astoreN X2.here hx rfl (hb hby d15_10) rfl rfl rfl (XS.aloadN X2.here hx rfl (hb hby d15_11) rfl rfl (XS.iloadN X2.here hx rfl (hb hby d15_12) rfl (XS.aloadN X2.here hx rfl (hb hby d15_13) rfl rfl kk)))) ?_
  obtain ⟨cl3, Ar3, q3, Sz3, Nn3, Hh3, G3⟩ := id (V2)
  have cf_5 := (own_inskeep Ix K2)
  obtain ⟨T4, h4, X4, e4, W4, st4⟩ := stR X2 hx hZ rfl Ar3 (j := (0 : Int32)) (inb_of Sz3 ⟨by decide, by decide⟩) rfl (Sto.of Ar3 (by rw [q3]; exact O2) cf_5) (g := (mkF m 14 #[.val (.ref a), .val (.ref x), .val (.ref b2), .val (.int (0 : Int32))] [(.ref x), (.int (0 : Int32)), (.ref b2)])) rfl rfl (hb hby d15_14)
  have sz4 := W4.size
  have N4 := Fr.snoc X4 N2 (own_le (by omega) : n0 ≤ b2)
  have V4 : Arv Z h4 b2 k2 (.object "java/lang/Object") (10 : Int32) [(.ref x), .null, .null, .null, .null, .null, .null, .null, .null, .null] .null := Arv.set Ar3 q3 Sz3 Nn3 Hh3 G3 rfl W4 0 rfl (Nat.le_of_ble_eq_true rfl)
  refine go_of (B := (T4.setTop (mkF m 15 #[.val (.ref a), .val (.ref x), .val (.ref b2), .val (.int (0 : Int32))] []))) (st4) ?_
  refine go_of (B := (T4.setTop (mkF m 19 #[.val (.ref a), .val (.ref x), .val (.ref b2), .val (.int (0 : Int32))] [(.int (1 : Int32)), (.ref a)]))) (fun _ kk => XS.aloadN X4.here hx rfl (hb hby d15_15) rfl rfl (XS.iloadN X4.here hx rfl (hb hby d15_16) rfl (XS.iconst X4.here hx rfl (hb hby d15_17) (XS.iadd X4.here hx rfl (hb hby d15_18) rfl kk)))) ?_
  have cf_6 := (A2.1.wr W4)
  have cf_7 := (A2.2.2.2.other W4 (Or.inl (by first | omega | exact own_ne (by omega) | exact own_le (by omega))))
  obtain ⟨T8, h8, X8, e8, W8, st8⟩ := putF X4 hx hZ hown (host := "") (Or.inl (wd 123 rfl)) Via.refl e4 cf_7 cf_6 (Or.inl (wd 124 rfl)) (wd 93 rfl) (ty := .int) (by decide) rfl rfl (g := (mkF m 19 #[.val (.ref a), .val (.ref x), .val (.ref b2), .val (.int (0 : Int32))] [(.int (1 : Int32)), (.ref a)])) rfl rfl (hb hby d15_19)
  have sz8 := W8.size
  have Fw8 := cf_7.same W8
  have N8 := Fr.snoc X8 N4 (own_le (by omega) : n0 ≤ a)
  refine go_of (B := (T8.setTop (mkF m 22 #[.val (.ref a), .val (.ref x), .val (.ref b2), .val (.int (0 : Int32))] []))) (st8) ?_
  have cf_9 := (V4.other W8 (by first | omega | exact own_ne (by omega) | exact own_le (by omega)))
  have cf_10 := (cf_6.wr W8)
  have cf_11 := ((A2.2.1.other W4 (Or.inl (by first | omega | exact own_ne (by omega) | exact own_le (by omega)))).other W8 (Or.inr (slot_ne (Or.inl (wd 112 rfl)) (Or.inl (wd 124 rfl)) (by decide) (t := .int) (t' := .int) (by decide) (by decide))))
  have cf_12 := ((A2.2.2.1.other W4 (Or.inl (by first | omega | exact own_ne (by omega) | exact own_le (by omega)))).other W8 (Or.inr (slot_ne (Or.inl (wd 115 rfl)) (Or.inl (wd 124 rfl)) (by decide) (t := (.array (.object "java/lang/Object"))) (t' := .int) (by decide) (by decide))))
  have cf_13 := ((XE2.wr W4).wr W8)
  refine go_end X8 (v := none) (fun _ => rfl) Bd.notSynchronized (by decide) (by decide) (Q := (Q_addh0 Z a x wD mc kD h0 n0)) ?_ (fun fs hr => X8.returnOut hx Bd.returns (hb hby d15_22) hr)
  unfold Q_addh0
  try rw [e8]
  exact ⟨b2, k2, rfl, N8, by omega, ((((Keep.refl h0 [a]).trans K2 (allS (Or.inl (List.mem_of_getElem? (i := 0) rfl)) all0)).wr W4 (Or.inr (by first | omega | exact own_ne (by omega) | exact own_le (by omega)))).wr W8 (Or.inl (List.mem_of_getElem? (i := 0) rfl))), ⟨cf_10, cf_11, cf_12, Fw8⟩, cf_9, O2, cf_13⟩
theorem d14_0 : decode jdk_38_method_25_code 0 = .ok (.aload_n 0, 1) := by decide +kernel
theorem d14_1 : decode jdk_38_method_25_code 1 = .ok (.dup, 1) := by decide +kernel
theorem d14_2 : decode jdk_38_method_25_code 2 = .ok (.getfield 63, 3) := by decide +kernel
theorem d14_5 : decode jdk_38_method_25_code 5 = .ok (.iconst 1, 1) := by decide +kernel
theorem d14_6 : decode jdk_38_method_25_code 6 = .ok (.iadd, 1) := by decide +kernel
theorem d14_7 : decode jdk_38_method_25_code 7 = .ok (.putfield 63, 3) := by decide +kernel
theorem d14_10 : decode jdk_38_method_25_code 10 = .ok (.aload_n 0, 1) := by decide +kernel
theorem d14_11 : decode jdk_38_method_25_code 11 = .ok (.aload_n 1, 1) := by decide +kernel
theorem d14_12 : decode jdk_38_method_25_code 12 = .ok (.aload_n 0, 1) := by decide +kernel
theorem d14_13 : decode jdk_38_method_25_code 13 = .ok (.getfield 9, 3) := by decide +kernel
theorem d14_16 : decode jdk_38_method_25_code 16 = .ok (.aload_n 0, 1) := by decide +kernel
theorem d14_17 : decode jdk_38_method_25_code 17 = .ok (.getfield 48, 3) := by decide +kernel
theorem d14_20 : decode jdk_38_method_25_code 20 = .ok (.invokevirtual 131, 3) := by decide +kernel
theorem pd__Ljava_lang_Object__Ljava_lang_Object_I_V : parseMethodDescriptor "(Ljava/lang/Object;[Ljava/lang/Object;I)V" = some ⟨[(.object "java/lang/Object"), (.array (.object "java/lang/Object")), .int], none⟩ := by decide +kernel
theorem d14_23 : decode jdk_38_method_25_code 23 = .ok (.iconst 1, 1) := by decide +kernel
theorem d14_24 : decode jdk_38_method_25_code 24 = .ok (.ireturn, 1) := by decide +kernel
def Q_add0 (Z : State) (a : Addr) (x : Addr) (mc : Int32) (wD : Addr) (kD : ClassId) (h0 : Heap) (n0 : Nat) (v : Option Value) (h : Heap) (L : List Loc) : Prop := ∃ (b : Addr) (k : ClassId), v = some (.int 1) ∧ Fr n0 L ∧ h0.size ≤ b ∧ Keep h0 h [a] ∧ AL Z h a (mc + (1 : Int32)) b 1 ∧ Arv Z h b k (.object "java/lang/Object") 10 [.ref x, .null, .null, .null, .null, .null, .null, .null, .null, .null] .null ∧ Ovr Z k "java/lang/Object" ∧ Exa Z h b "[Ljava/lang/Object;"
theorem ef_add0 (m : MethodId) (a : Addr) (x : Addr)  : entryFrame m #[(.ref a), (.ref x)] 2 = mkF m 0 #[.val (.ref a), .val (.ref x)] [] := by first | (simp [entryFrame, mkF, argsToLocals, Value.category]; done) | rfl
theorem add0 (l : Launch) (Z : State) (a0 : Array Value) (hw : TW a0 Z) (ws : List Cond) (a : Addr) (x : Addr) (mc : Int32) (wD : Addr) (kD : ClassId) (h0 : Heap) (n0 : Nat) (Z0 : n0 ≤ h0.size) (A : AL Z h0 a mc wD 0) (g : n0 ≤ a) (O : Old Z n0 h0) (S : Sta Z Z.heap "java/util/ArrayList" "DEFAULTCAPACITY_EMPTY_ELEMENTDATA" "[Ljava/lang/Object;" (.ref wD)) (VD : Arv Z h0 wD kD (.object "java/lang/Object") 0 [] .null) (D0 : wD < n0) (Ix : Ins Z h0 x "java/lang/Object" true) :
    own_MF l Z MN11 jdk_38_method_25_code 2 (some .boolean) ws (own_R 4 1 10 56) #[(.ref a), (.ref x)] h0 (Q_add0 Z a x mc wD kD h0 n0) := by
  have wd := @own_wd _ _ hw
  refine MetFree.of_bodySF (plainFor_of_name pn_java_util_ArrayList) hisR ?_
  intro p e s m args below meth c s₁ Bd hml0 hP hK
  obtain ⟨rfl, hZ, hh⟩ := hP
  have hx := Bd.exec
  have hby := Bd.bytes
  have hml : c.maxLocals = 2 := hml0
  have hown : s.vm.findClass "java/util/ArrayList" = some m.cls := findClass_of_methodNamed Bd.named
  have hnm := (name_of_methodNamed Bd.named Bd.method).1
  have X0 : Stand p l e (own_R 4 1 10 56) s m #[(.ref a), (.ref x)] below meth c s₁ [] 0 0 := Stand.of_body Bd
  have e0 : s₁.heap = h0 := by rw [← hh, Bd.state]; rfl
  have N0 := Fr.nil n0
  have lta := own_nlt (A.1.lt)
  have ltD := own_nlt (VD.lt)
  have ltx := own_nlt (own_inslt Ix)
  have D0' := own_nlt D0
  refine go_of (A := s₁.setTop (entryFrame m #[(.ref a), (.ref x)] 2)) (B := s₁.setTop (mkF m 0 #[.val (.ref a), .val (.ref x)] [])) (fun _ kk' => castTop (ef_add0 m a x) kk') ?_
  refine go_of (B := (s₁.setTop (mkF m 2 #[.val (.ref a), .val (.ref x)] [(.ref a), (.ref a)]))) (fun _ kk => XS.aloadN X0.here hx rfl (hb hby d14_0) rfl rfl (XS.dup X0.here hx rfl (hb hby d14_1) rfl rfl kk)) ?_
  obtain ⟨T1, X1, e1, st1⟩ := getF X0 hx hZ hown (host := "") (Or.inl (wd 121 rfl)) (Via.of (wd 122 rfl)) e0 A.2.1 (g := (mkF m 2 #[.val (.ref a), .val (.ref x)] [(.ref a), (.ref a)])) rfl rfl (hb hby d14_2)
  refine go_of (B := (T1.setTop (mkF m 5 #[.val (.ref a), .val (.ref x)] [(.int mc), (.ref a)]))) (st1) ?_
  refine go_of (B := (T1.setTop (mkF m 7 #[.val (.ref a), .val (.ref x)] [(.int (mc + (1 : Int32))), (.ref a)]))) (fun _ kk => XS.iconst X1.here hx rfl (hb hby d14_5) (XS.iadd X1.here hx rfl (hb hby d14_6) rfl kk)) ?_
  obtain ⟨T2, h2, X2, e2, W2, st2⟩ := putF X1 hx hZ hown (host := "") (Or.inl (wd 121 rfl)) (Via.of (wd 122 rfl)) e1 A.2.1 A.1 (Or.inl (wd 112 rfl)) (wd 93 rfl) (ty := .int) (by decide) rfl rfl (g := (mkF m 7 #[.val (.ref a), .val (.ref x)] [(.int (mc + (1 : Int32))), (.ref a)])) rfl rfl (hb hby d14_7)
  have sz2 := W2.size
  have Fw2 := A.2.1.same W2
  have N2 := Fr.snoc X2 N0 (g : n0 ≤ a)
  refine go_of (B := (T2.setTop (mkF m 10 #[.val (.ref a), .val (.ref x)] []))) (st2) ?_
  refine go_of (B := (T2.setTop (mkF m 13 #[.val (.ref a), .val (.ref x)] [(.ref a), (.ref x), (.ref a)]))) (fun _ kk => XS.aloadN X2.here hx rfl (hb hby d14_10) rfl rfl (XS.aloadN X2.here hx rfl (hb hby d14_11) rfl rfl (XS.aloadN X2.here hx rfl (hb hby d14_12) rfl rfl kk))) ?_
  have cf_3 := (A.2.2.1.other W2 (Or.inr (slot_ne (Or.inl (wd 115 rfl)) (Or.inl (wd 112 rfl)) (by decide) (t := (.array (.object "java/lang/Object"))) (t' := .int) (by decide) (by decide))))
  obtain ⟨T4, X4, e4, st4⟩ := getF X2 hx hZ hown (host := "") (Or.inl (wd 114 rfl)) Via.refl e2 cf_3 (g := (mkF m 13 #[.val (.ref a), .val (.ref x)] [(.ref a), (.ref x), (.ref a)])) rfl rfl (hb hby d14_13)
  refine go_of (B := (T4.setTop (mkF m 16 #[.val (.ref a), .val (.ref x)] [(.ref wD), (.ref x), (.ref a)]))) (st4) ?_
  refine go_of (B := (T4.setTop (mkF m 17 #[.val (.ref a), .val (.ref x)] [(.ref a), (.ref wD), (.ref x), (.ref a)]))) (fun _ kk => XS.aloadN X4.here hx rfl (hb hby d14_16) rfl rfl kk) ?_
  have cf_5 := (A.2.2.2.other W2 (Or.inr (slot_ne (Or.inl (wd 124 rfl)) (Or.inl (wd 112 rfl)) (by decide) (t := .int) (t' := .int) (by decide) (by decide))))
  obtain ⟨T6, X6, e6, st6⟩ := getF X4 hx hZ hown (host := "") (Or.inl (wd 123 rfl)) Via.refl e4 cf_5 (g := (mkF m 17 #[.val (.ref a), .val (.ref x)] [(.ref a), (.ref wD), (.ref x), (.ref a)])) rfl rfl (hb hby d14_17)
  refine go_of (B := (T6.setTop (mkF m 20 #[.val (.ref a), .val (.ref x)] [(.int (0 : Int32)), (.ref wD), (.ref x), (.ref a)]))) (st6) ?_
  have cf_7 := (O.wr W2 (by first | omega | exact own_ne (by omega) | exact own_le (by omega)))
  have cf_8 := (A.1.wr W2)
  have cf_9 := (VD.other W2 (by first | omega | exact own_ne (by omega) | exact own_le (by omega)))
  obtain ⟨cq10, q10, q10'⟩ := cf_8.cell
  obtain ⟨_, _, ⟨T10, L10, k10, n10⟩, -, X10, ⟨Lc10, hQ10, l10, y10, z10⟩, st10⟩ := X6.privateBack hx (y := MN12) hown (mvT hZ (wd 125 rfl)) (mvT hZ (wd 126 rfl)) (mvT hZ (wd 128 rfl)) (Cond.privateMethod_at (mvP hZ (wd 127 rfl) (args := #[]))) (mvT hZ (wd 129 rfl)) (by decide) (backOf (W := 0) (addh0 l Z a0 hw [] a x wD (mc + (1 : Int32)) kD h2 n0 (by omega) ⟨cf_8, Fw2, cf_3, cf_5⟩ g cf_7 S cf_9 D0 (Ix.wr W2)) hZ (wd 129 rfl) (wd 94 rfl) (by decide) (by decide)) (g := (mkF m 20 #[.val (.ref a), .val (.ref x)] [(.int (0 : Int32)), (.ref wD), (.ref x), (.ref a)])) rfl (by rw [hml]; rfl) (Steps.refl _) (a := a) (by rw [e6]; exact q10) q10' (argsL := [(.ref x), (.ref wD), (.int (0 : Int32))]) (rest := []) (lenOf pd__Ljava_lang_Object__Ljava_lang_Object_I_V rfl) rfl (Nat.le_of_eq rfl) (hb hby d14_20) (fun _ _ => ⟨rfl, e6, (by decide : 0 + 1 ≤ _), (by decide : 0 + 10 ≤ _)⟩)
  dsimp only [Pt.U, Pt.locs, Pt.cells, Pt.slots] at X10 l10 y10 z10 st10 hQ10
  subst l10 y10 z10
  obtain ⟨b10, k10, rfl, N10q, lo10, K10, A10, V10, O10, XE10⟩ := hQ10
  have lo10 := own_nle lo10
  have N10 := Fr.app N2 N10q
  have hi10 := own_nlt (V10.lt)
  have sz10 := K10.1
  refine go_tr (B := (T10.setTop (mkF m 23 #[.val (.ref a), .val (.ref x)] []))) (st10) ?_
  refine go_of (B := (T10.setTop (mkF m 24 #[.val (.ref a), .val (.ref x)] [(.int (1 : Int32))]))) (fun _ kk => XS.iconst X10.here hx rfl (hb hby d14_23) kk) ?_
  refine go_end X10 (v := some (.int (nar .boolean (1 : Int32)))) (fun h => by rw [Bd.returns] at h; cases h) Bd.notSynchronized (by decide) (by decide) (Q := (Q_add0 Z a x mc wD kD h0 n0)) ?_ (fun fs hr => retN X10 hx (t := .boolean) Bd.returns (by simp) (hb hby d14_24) hr)
  unfold Q_add0
  exact ⟨b10, k10, rfl, N10, by omega, (((Keep.refl h0 [a]).wr W2 (Or.inl (List.mem_of_getElem? (i := 0) rfl))).trans K10 (allS (Or.inl (List.mem_of_getElem? (i := 0) rfl)) all0)), ⟨A10.1, A10.2.1, A10.2.2.1, A10.2.2.2⟩, V10, O10, XE10⟩
def Q_addh1 (Z : State) (a : Addr) (x : Addr) (d : Addr) (mc : Int32) (kD : ClassId) (x0 : Addr) (h0 : Heap) (n0 : Nat) (v : Option Value) (h : Heap) (L : List Loc) : Prop := v = none ∧ Fr n0 L ∧ Keep h0 h [a, d] ∧ AL Z h a mc d 2 ∧ Arv Z h d kD (.object "java/lang/Object") 10 [.ref x0, .ref x, .null, .null, .null, .null, .null, .null, .null, .null] .null
theorem ef_addh1 (m : MethodId) (a : Addr) (x : Addr) (d : Addr)  : entryFrame m #[(.ref a), (.ref x), (.ref d), (.int (1 : Int32))] 4 = mkF m 0 #[.val (.ref a), .val (.ref x), .val (.ref d), .val (.int (1 : Int32))] [] := by first | (simp [entryFrame, mkF, argsToLocals, Value.category]; done) | rfl
theorem addh1 (l : Launch) (Z : State) (a0 : Array Value) (hw : TW a0 Z) (ws : List Cond) (a : Addr) (x : Addr) (d : Addr) (mc : Int32) (kD : ClassId) (x0 : Addr) (h0 : Heap) (n0 : Nat) (Z0 : n0 ≤ h0.size) (A : AL Z h0 a mc d 1) (g : n0 ≤ a) (gd : n0 ≤ d) (VD : Arv Z h0 d kD (.object "java/lang/Object") 10 [.ref x0, .null, .null, .null, .null, .null, .null, .null, .null, .null] .null) (OV : Ovr Z kD "java/lang/Object") (Ix : Ins Z h0 x "java/lang/Object" true) (nad : a ≠ d) :
    own_MF l Z MN12 jdk_38_method_24_code 4 none ws (own_R 0 0 0 0) #[(.ref a), (.ref x), (.ref d), (.int (1 : Int32))] h0 (Q_addh1 Z a x d mc kD x0 h0 n0) := by
  have wd := @own_wd _ _ hw
  refine MetFree.of_bodySF (plainFor_of_name pn_java_util_ArrayList) hisR ?_
  intro p e s m args below meth c s₁ Bd hml0 hP hK
  obtain ⟨rfl, hZ, hh⟩ := hP
  have hx := Bd.exec
  have hby := Bd.bytes
  have hml : c.maxLocals = 4 := hml0
  have hown : s.vm.findClass "java/util/ArrayList" = some m.cls := findClass_of_methodNamed Bd.named
  have hnm := (name_of_methodNamed Bd.named Bd.method).1
  have X0 : Stand p l e (own_R 0 0 0 0) s m #[(.ref a), (.ref x), (.ref d), (.int (1 : Int32))] below meth c s₁ [] 0 0 := Stand.of_body Bd
  have e0 : s₁.heap = h0 := by rw [← hh, Bd.state]; rfl
  have N0 := Fr.nil n0
  have lta := own_nlt (A.1.lt)
  have ltD := own_nlt (VD.lt)
  have ltx := own_nlt (own_inslt Ix)
  have nad' : @Ne Nat a d := nad
  refine go_of (A := s₁.setTop (entryFrame m #[(.ref a), (.ref x), (.ref d), (.int (1 : Int32))] 4)) (B := s₁.setTop (mkF m 0 #[.val (.ref a), .val (.ref x), .val (.ref d), .val (.int (1 : Int32))] [])) (fun _ kk' => castTop (ef_addh1 m a x d) kk') ?_
  refine go_of (B := (s₁.setTop (mkF m 2 #[.val (.ref a), .val (.ref x), .val (.ref d), .val (.int (1 : Int32))] [(.ref d), (.int (1 : Int32))]))) (fun _ kk => XS.iloadN X0.here hx rfl (hb hby d15_0) rfl (XS.aloadN X0.here hx rfl (hb hby d15_1) rfl rfl kk)) ?_
  obtain ⟨cl1, Ar1, q1, Sz1, Nn1, Hh1, G1⟩ := id (VD)
  have ln1 := len_of Sz1 Nn1
  refine go_of (B := (s₁.setTop (mkF m 3 #[.val (.ref a), .val (.ref x), .val (.ref d), .val (.int (1 : Int32))] [(.int (10 : Int32)), (.int (1 : Int32))]))) (fun _ kk => X0.arraylength hx (by rw [e0]; exact Ar1.1) (State.isArrayOf_alike hZ.alike Ar1.2.1) (g := (mkF m 2 #[.val (.ref a), .val (.ref x), .val (.ref d), .val (.int (1 : Int32))] [(.ref d), (.int (1 : Int32))])) rfl rfl (hb hby d15_2) _ (by rw [ln1]; exact kk)) ?_
  refine go_of (B := (s₁.setTop (mkF m 14 #[.val (.ref a), .val (.ref x), .val (.ref d), .val (.int (1 : Int32))] [(.ref x), (.int (1 : Int32)), (.ref d)]))) (fun _ kk => XS.icmpYes X0.here hx rfl (pc0 := 3) (pc' := 11) rfl (hb hby d15_3) rfl (feq (by decide : ¬ ((1 : Int32) = (10 : Int32)))).2 (by decide) (by decide) (XS.aloadN X0.here hx rfl (hb hby d15_11) rfl rfl (XS.iloadN X0.here hx rfl (hb hby d15_12) rfl (XS.aloadN X0.here hx rfl (hb hby d15_13) rfl rfl kk)))) ?_
  obtain ⟨cl2, Ar2, q2, Sz2, Nn2, Hh2, G2⟩ := id (VD)
  obtain ⟨T3, h3, X3, e3, W3, st3⟩ := stR X0 hx hZ e0 Ar2 (j := (1 : Int32)) (inb_of Sz2 ⟨by decide, by decide⟩) rfl (Sto.of Ar2 (by rw [q2]; exact OV) Ix) (g := (mkF m 14 #[.val (.ref a), .val (.ref x), .val (.ref d), .val (.int (1 : Int32))] [(.ref x), (.int (1 : Int32)), (.ref d)])) rfl rfl (hb hby d15_14)
  have sz3 := W3.size
  have N3 := Fr.snoc X3 N0 (gd : n0 ≤ d)
  have V3 : Arv Z h3 d kD (.object "java/lang/Object") (10 : Int32) [(.ref x0), (.ref x), .null, .null, .null, .null, .null, .null, .null, .null] .null := Arv.set Ar2 q2 Sz2 Nn2 Hh2 G2 rfl W3 1 rfl (Nat.le_of_ble_eq_true rfl)
  refine go_of (B := (T3.setTop (mkF m 15 #[.val (.ref a), .val (.ref x), .val (.ref d), .val (.int (1 : Int32))] []))) (st3) ?_
  refine go_of (B := (T3.setTop (mkF m 19 #[.val (.ref a), .val (.ref x), .val (.ref d), .val (.int (1 : Int32))] [(.int (2 : Int32)), (.ref a)]))) (fun _ kk => XS.aloadN X3.here hx rfl (hb hby d15_15) rfl rfl (XS.iloadN X3.here hx rfl (hb hby d15_16) rfl (XS.iconst X3.here hx rfl (hb hby d15_17) (XS.iadd X3.here hx rfl (hb hby d15_18) rfl kk)))) ?_
  have cf_4 := (A.1.wr W3)
  have cf_5 := (A.2.2.2.other W3 (Or.inl (by first | omega | exact own_ne (by omega) | exact own_le (by omega))))
  obtain ⟨T6, h6, X6, e6, W6, st6⟩ := putF X3 hx hZ hown (host := "") (Or.inl (wd 123 rfl)) Via.refl e3 cf_5 cf_4 (Or.inl (wd 124 rfl)) (wd 93 rfl) (ty := .int) (by decide) rfl rfl (g := (mkF m 19 #[.val (.ref a), .val (.ref x), .val (.ref d), .val (.int (1 : Int32))] [(.int (2 : Int32)), (.ref a)])) rfl rfl (hb hby d15_19)
  have sz6 := W6.size
  have Fw6 := cf_5.same W6
  have N6 := Fr.snoc X6 N3 (g : n0 ≤ a)
  refine go_of (B := (T6.setTop (mkF m 22 #[.val (.ref a), .val (.ref x), .val (.ref d), .val (.int (1 : Int32))] []))) (st6) ?_
  have cf_7 := (V3.other W6 (by first | omega | exact own_ne (by omega) | exact own_le (by omega)))
  have cf_8 := (cf_4.wr W6)
  have cf_9 := ((A.2.1.other W3 (Or.inl (by first | omega | exact own_ne (by omega) | exact own_le (by omega)))).other W6 (Or.inr (slot_ne (Or.inl (wd 112 rfl)) (Or.inl (wd 124 rfl)) (by decide) (t := .int) (t' := .int) (by decide) (by decide))))
  have cf_10 := ((A.2.2.1.other W3 (Or.inl (by first | omega | exact own_ne (by omega) | exact own_le (by omega)))).other W6 (Or.inr (slot_ne (Or.inl (wd 115 rfl)) (Or.inl (wd 124 rfl)) (by decide) (t := (.array (.object "java/lang/Object"))) (t' := .int) (by decide) (by decide))))
  refine go_end X6 (v := none) (fun _ => rfl) Bd.notSynchronized (by decide) (by decide) (Q := (Q_addh1 Z a x d mc kD x0 h0 n0)) ?_ (fun fs hr => X6.returnOut hx Bd.returns (hb hby d15_22) hr)
  unfold Q_addh1
  try rw [e6]
  exact ⟨rfl, N6, (((Keep.refl h0 [a, d]).wr W3 (Or.inl (List.mem_of_getElem? (i := 1) rfl))).wr W6 (Or.inl (List.mem_of_getElem? (i := 0) rfl))), ⟨cf_8, cf_9, cf_10, Fw6⟩, cf_7⟩
def Q_add1 (Z : State) (a : Addr) (x : Addr) (d : Addr) (mc : Int32) (kD : ClassId) (x0 : Addr) (h0 : Heap) (n0 : Nat) (v : Option Value) (h : Heap) (L : List Loc) : Prop := v = some (.int 1) ∧ Fr n0 L ∧ Keep h0 h [a, d] ∧ AL Z h a (mc + (1 : Int32)) d 2 ∧ Arv Z h d kD (.object "java/lang/Object") 10 [.ref x0, .ref x, .null, .null, .null, .null, .null, .null, .null, .null] .null
theorem ef_add1 (m : MethodId) (a : Addr) (x : Addr)  : entryFrame m #[(.ref a), (.ref x)] 2 = mkF m 0 #[.val (.ref a), .val (.ref x)] [] := by first | (simp [entryFrame, mkF, argsToLocals, Value.category]; done) | rfl
theorem add1 (l : Launch) (Z : State) (a0 : Array Value) (hw : TW a0 Z) (ws : List Cond) (a : Addr) (x : Addr) (d : Addr) (mc : Int32) (kD : ClassId) (x0 : Addr) (h0 : Heap) (n0 : Nat) (Z0 : n0 ≤ h0.size) (A : AL Z h0 a mc d 1) (g : n0 ≤ a) (gd : n0 ≤ d) (VD : Arv Z h0 d kD (.object "java/lang/Object") 10 [.ref x0, .null, .null, .null, .null, .null, .null, .null, .null, .null] .null) (OV : Ovr Z kD "java/lang/Object") (Ix : Ins Z h0 x "java/lang/Object" true) (nad : a ≠ d) :
    own_MF l Z MN11 jdk_38_method_25_code 2 (some .boolean) ws (own_R 1 0 0 15) #[(.ref a), (.ref x)] h0 (Q_add1 Z a x d mc kD x0 h0 n0) := by
  have wd := @own_wd _ _ hw
  refine MetFree.of_bodySF (plainFor_of_name pn_java_util_ArrayList) hisR ?_
  intro p e s m args below meth c s₁ Bd hml0 hP hK
  obtain ⟨rfl, hZ, hh⟩ := hP
  have hx := Bd.exec
  have hby := Bd.bytes
  have hml : c.maxLocals = 2 := hml0
  have hown : s.vm.findClass "java/util/ArrayList" = some m.cls := findClass_of_methodNamed Bd.named
  have hnm := (name_of_methodNamed Bd.named Bd.method).1
  have X0 : Stand p l e (own_R 1 0 0 15) s m #[(.ref a), (.ref x)] below meth c s₁ [] 0 0 := Stand.of_body Bd
  have e0 : s₁.heap = h0 := by rw [← hh, Bd.state]; rfl
  have N0 := Fr.nil n0
  have lta := own_nlt (A.1.lt)
  have ltD := own_nlt (VD.lt)
  have ltx := own_nlt (own_inslt Ix)
  have nad' : @Ne Nat a d := nad
  refine go_of (A := s₁.setTop (entryFrame m #[(.ref a), (.ref x)] 2)) (B := s₁.setTop (mkF m 0 #[.val (.ref a), .val (.ref x)] [])) (fun _ kk' => castTop (ef_add1 m a x) kk') ?_
  refine go_of (B := (s₁.setTop (mkF m 2 #[.val (.ref a), .val (.ref x)] [(.ref a), (.ref a)]))) (fun _ kk => XS.aloadN X0.here hx rfl (hb hby d14_0) rfl rfl (XS.dup X0.here hx rfl (hb hby d14_1) rfl rfl kk)) ?_
  obtain ⟨T1, X1, e1, st1⟩ := getF X0 hx hZ hown (host := "") (Or.inl (wd 121 rfl)) (Via.of (wd 122 rfl)) e0 A.2.1 (g := (mkF m 2 #[.val (.ref a), .val (.ref x)] [(.ref a), (.ref a)])) rfl rfl (hb hby d14_2)
  refine go_of (B := (T1.setTop (mkF m 5 #[.val (.ref a), .val (.ref x)] [(.int mc), (.ref a)]))) (st1) ?_
  refine go_of (B := (T1.setTop (mkF m 7 #[.val (.ref a), .val (.ref x)] [(.int (mc + (1 : Int32))), (.ref a)]))) (fun _ kk => XS.iconst X1.here hx rfl (hb hby d14_5) (XS.iadd X1.here hx rfl (hb hby d14_6) rfl kk)) ?_
  obtain ⟨T2, h2, X2, e2, W2, st2⟩ := putF X1 hx hZ hown (host := "") (Or.inl (wd 121 rfl)) (Via.of (wd 122 rfl)) e1 A.2.1 A.1 (Or.inl (wd 112 rfl)) (wd 93 rfl) (ty := .int) (by decide) rfl rfl (g := (mkF m 7 #[.val (.ref a), .val (.ref x)] [(.int (mc + (1 : Int32))), (.ref a)])) rfl rfl (hb hby d14_7)
  have sz2 := W2.size
  have Fw2 := A.2.1.same W2
  have N2 := Fr.snoc X2 N0 (g : n0 ≤ a)
  refine go_of (B := (T2.setTop (mkF m 10 #[.val (.ref a), .val (.ref x)] []))) (st2) ?_
  refine go_of (B := (T2.setTop (mkF m 13 #[.val (.ref a), .val (.ref x)] [(.ref a), (.ref x), (.ref a)]))) (fun _ kk => XS.aloadN X2.here hx rfl (hb hby d14_10) rfl rfl (XS.aloadN X2.here hx rfl (hb hby d14_11) rfl rfl (XS.aloadN X2.here hx rfl (hb hby d14_12) rfl rfl kk))) ?_
  have cf_3 := (A.2.2.1.other W2 (Or.inr (slot_ne (Or.inl (wd 115 rfl)) (Or.inl (wd 112 rfl)) (by decide) (t := (.array (.object "java/lang/Object"))) (t' := .int) (by decide) (by decide))))
  obtain ⟨T4, X4, e4, st4⟩ := getF X2 hx hZ hown (host := "") (Or.inl (wd 114 rfl)) Via.refl e2 cf_3 (g := (mkF m 13 #[.val (.ref a), .val (.ref x)] [(.ref a), (.ref x), (.ref a)])) rfl rfl (hb hby d14_13)
  refine go_of (B := (T4.setTop (mkF m 16 #[.val (.ref a), .val (.ref x)] [(.ref d), (.ref x), (.ref a)]))) (st4) ?_
  refine go_of (B := (T4.setTop (mkF m 17 #[.val (.ref a), .val (.ref x)] [(.ref a), (.ref d), (.ref x), (.ref a)]))) (fun _ kk => XS.aloadN X4.here hx rfl (hb hby d14_16) rfl rfl kk) ?_
  have cf_5 := (A.2.2.2.other W2 (Or.inr (slot_ne (Or.inl (wd 124 rfl)) (Or.inl (wd 112 rfl)) (by decide) (t := .int) (t' := .int) (by decide) (by decide))))
  obtain ⟨T6, X6, e6, st6⟩ := getF X4 hx hZ hown (host := "") (Or.inl (wd 123 rfl)) Via.refl e4 cf_5 (g := (mkF m 17 #[.val (.ref a), .val (.ref x)] [(.ref a), (.ref d), (.ref x), (.ref a)])) rfl rfl (hb hby d14_17)
  refine go_of (B := (T6.setTop (mkF m 20 #[.val (.ref a), .val (.ref x)] [(.int (1 : Int32)), (.ref d), (.ref x), (.ref a)]))) (st6) ?_
  have cf_7 := (A.1.wr W2)
  have cf_8 := (VD.other W2 (by first | omega | exact own_ne (by omega) | exact own_le (by omega)))
  obtain ⟨cq9, q9, q9'⟩ := cf_7.cell
  obtain ⟨_, _, ⟨T9, L9, k9, n9⟩, -, X9, ⟨Lc9, hQ9, l9, y9, z9⟩, st9⟩ := X6.privateBack hx (y := MN12) hown (mvT hZ (wd 125 rfl)) (mvT hZ (wd 126 rfl)) (mvT hZ (wd 128 rfl)) (Cond.privateMethod_at (mvP hZ (wd 127 rfl) (args := #[]))) (mvT hZ (wd 129 rfl)) (by decide) (backOf (W := 0) (addh1 l Z a0 hw [] a x d (mc + (1 : Int32)) kD x0 h2 n0 (by omega) ⟨cf_7, Fw2, cf_3, cf_5⟩ g gd cf_8 OV (Ix.wr W2) nad) hZ (wd 129 rfl) (wd 94 rfl) (by decide) (by decide)) (g := (mkF m 20 #[.val (.ref a), .val (.ref x)] [(.int (1 : Int32)), (.ref d), (.ref x), (.ref a)])) rfl (by rw [hml]; rfl) (Steps.refl _) (a := a) (by rw [e6]; exact q9) q9' (argsL := [(.ref x), (.ref d), (.int (1 : Int32))]) (rest := []) (lenOf pd__Ljava_lang_Object__Ljava_lang_Object_I_V rfl) rfl (Nat.le_of_eq rfl) (hb hby d14_20) (fun _ _ => ⟨rfl, e6, (by decide : 0 + 0 ≤ _), (by decide : 0 + 0 ≤ _)⟩)
  dsimp only [Pt.U, Pt.locs, Pt.cells, Pt.slots] at X9 l9 y9 z9 st9 hQ9
  subst l9 y9 z9
  obtain ⟨rfl, N9q, K9, A9, V9⟩ := hQ9
  have N9 := Fr.app N2 N9q
  have sz9 := K9.1
  refine go_tr (B := (T9.setTop (mkF m 23 #[.val (.ref a), .val (.ref x)] []))) (st9) ?_
  refine go_of (B := (T9.setTop (mkF m 24 #[.val (.ref a), .val (.ref x)] [(.int (1 : Int32))]))) (fun _ kk => XS.iconst X9.here hx rfl (hb hby d14_23) kk) ?_
  refine go_end X9 (v := some (.int (nar .boolean (1 : Int32)))) (fun h => by rw [Bd.returns] at h; cases h) Bd.notSynchronized (by decide) (by decide) (Q := (Q_add1 Z a x d mc kD x0 h0 n0)) ?_ (fun fs hr => retN X9 hx (t := .boolean) Bd.returns (by simp) (hb hby d14_24) hr)
  unfold Q_add1
  exact ⟨rfl, N9, (((Keep.refl h0 [a, d]).wr W2 (Or.inl (List.mem_of_getElem? (i := 0) rfl))).trans K9 (allS (Or.inl (List.mem_of_getElem? (i := 0) rfl)) (allS (Or.inl (List.mem_of_getElem? (i := 1) rfl)) all0))), ⟨A9.1, A9.2.1, A9.2.2.1, A9.2.2.2⟩, V9⟩
def Q_addh2 (Z : State) (a : Addr) (x : Addr) (d : Addr) (mc : Int32) (kD : ClassId) (x0 : Addr) (x1 : Addr) (h0 : Heap) (n0 : Nat) (v : Option Value) (h : Heap) (L : List Loc) : Prop := v = none ∧ Fr n0 L ∧ Keep h0 h [a, d] ∧ AL Z h a mc d 3 ∧ Arv Z h d kD (.object "java/lang/Object") 10 [.ref x0, .ref x1, .ref x, .null, .null, .null, .null, .null, .null, .null] .null
theorem ef_addh2 (m : MethodId) (a : Addr) (x : Addr) (d : Addr)  : entryFrame m #[(.ref a), (.ref x), (.ref d), (.int (2 : Int32))] 4 = mkF m 0 #[.val (.ref a), .val (.ref x), .val (.ref d), .val (.int (2 : Int32))] [] := by first | (simp [entryFrame, mkF, argsToLocals, Value.category]; done) | rfl
theorem addh2 (l : Launch) (Z : State) (a0 : Array Value) (hw : TW a0 Z) (ws : List Cond) (a : Addr) (x : Addr) (d : Addr) (mc : Int32) (kD : ClassId) (x0 : Addr) (x1 : Addr) (h0 : Heap) (n0 : Nat) (Z0 : n0 ≤ h0.size) (A : AL Z h0 a mc d 2) (g : n0 ≤ a) (gd : n0 ≤ d) (VD : Arv Z h0 d kD (.object "java/lang/Object") 10 [.ref x0, .ref x1, .null, .null, .null, .null, .null, .null, .null, .null] .null) (OV : Ovr Z kD "java/lang/Object") (Ix : Ins Z h0 x "java/lang/Object" true) (nad : a ≠ d) :
    own_MF l Z MN12 jdk_38_method_24_code 4 none ws (own_R 0 0 0 0) #[(.ref a), (.ref x), (.ref d), (.int (2 : Int32))] h0 (Q_addh2 Z a x d mc kD x0 x1 h0 n0) := by
  have wd := @own_wd _ _ hw
  refine MetFree.of_bodySF (plainFor_of_name pn_java_util_ArrayList) hisR ?_
  intro p e s m args below meth c s₁ Bd hml0 hP hK
  obtain ⟨rfl, hZ, hh⟩ := hP
  have hx := Bd.exec
  have hby := Bd.bytes
  have hml : c.maxLocals = 4 := hml0
  have hown : s.vm.findClass "java/util/ArrayList" = some m.cls := findClass_of_methodNamed Bd.named
  have hnm := (name_of_methodNamed Bd.named Bd.method).1
  have X0 : Stand p l e (own_R 0 0 0 0) s m #[(.ref a), (.ref x), (.ref d), (.int (2 : Int32))] below meth c s₁ [] 0 0 := Stand.of_body Bd
  have e0 : s₁.heap = h0 := by rw [← hh, Bd.state]; rfl
  have N0 := Fr.nil n0
  have lta := own_nlt (A.1.lt)
  have ltD := own_nlt (VD.lt)
  have ltx := own_nlt (own_inslt Ix)
  have nad' : @Ne Nat a d := nad
  refine go_of (A := s₁.setTop (entryFrame m #[(.ref a), (.ref x), (.ref d), (.int (2 : Int32))] 4)) (B := s₁.setTop (mkF m 0 #[.val (.ref a), .val (.ref x), .val (.ref d), .val (.int (2 : Int32))] [])) (fun _ kk' => castTop (ef_addh2 m a x d) kk') ?_
  refine go_of (B := (s₁.setTop (mkF m 2 #[.val (.ref a), .val (.ref x), .val (.ref d), .val (.int (2 : Int32))] [(.ref d), (.int (2 : Int32))]))) (fun _ kk => XS.iloadN X0.here hx rfl (hb hby d15_0) rfl (XS.aloadN X0.here hx rfl (hb hby d15_1) rfl rfl kk)) ?_
  obtain ⟨cl1, Ar1, q1, Sz1, Nn1, Hh1, G1⟩ := id (VD)
  have ln1 := len_of Sz1 Nn1
  refine go_of (B := (s₁.setTop (mkF m 3 #[.val (.ref a), .val (.ref x), .val (.ref d), .val (.int (2 : Int32))] [(.int (10 : Int32)), (.int (2 : Int32))]))) (fun _ kk => X0.arraylength hx (by rw [e0]; exact Ar1.1) (State.isArrayOf_alike hZ.alike Ar1.2.1) (g := (mkF m 2 #[.val (.ref a), .val (.ref x), .val (.ref d), .val (.int (2 : Int32))] [(.ref d), (.int (2 : Int32))])) rfl rfl (hb hby d15_2) _ (by rw [ln1]; exact kk)) ?_
  refine go_of (B := (s₁.setTop (mkF m 14 #[.val (.ref a), .val (.ref x), .val (.ref d), .val (.int (2 : Int32))] [(.ref x), (.int (2 : Int32)), (.ref d)]))) (fun _ kk => XS.icmpYes X0.here hx rfl (pc0 := 3) (pc' := 11) rfl (hb hby d15_3) rfl (feq (by decide : ¬ ((2 : Int32) = (10 : Int32)))).2 (by decide) (by decide) (XS.aloadN X0.here hx rfl (hb hby d15_11) rfl rfl (XS.iloadN X0.here hx rfl (hb hby d15_12) rfl (XS.aloadN X0.here hx rfl (hb hby d15_13) rfl rfl kk)))) ?_
  obtain ⟨cl2, Ar2, q2, Sz2, Nn2, Hh2, G2⟩ := id (VD)
  obtain ⟨T3, h3, X3, e3, W3, st3⟩ := stR X0 hx hZ e0 Ar2 (j := (2 : Int32)) (inb_of Sz2 ⟨by decide, by decide⟩) rfl (Sto.of Ar2 (by rw [q2]; exact OV) Ix) (g := (mkF m 14 #[.val (.ref a), .val (.ref x), .val (.ref d), .val (.int (2 : Int32))] [(.ref x), (.int (2 : Int32)), (.ref d)])) rfl rfl (hb hby d15_14)
  have sz3 := W3.size
  have N3 := Fr.snoc X3 N0 (gd : n0 ≤ d)
  have V3 : Arv Z h3 d kD (.object "java/lang/Object") (10 : Int32) [(.ref x0), (.ref x1), (.ref x), .null, .null, .null, .null, .null, .null, .null] .null := Arv.set Ar2 q2 Sz2 Nn2 Hh2 G2 rfl W3 2 rfl (Nat.le_of_ble_eq_true rfl)
  refine go_of (B := (T3.setTop (mkF m 15 #[.val (.ref a), .val (.ref x), .val (.ref d), .val (.int (2 : Int32))] []))) (st3) ?_
  refine go_of (B := (T3.setTop (mkF m 19 #[.val (.ref a), .val (.ref x), .val (.ref d), .val (.int (2 : Int32))] [(.int (3 : Int32)), (.ref a)]))) (fun _ kk => XS.aloadN X3.here hx rfl (hb hby d15_15) rfl rfl (XS.iloadN X3.here hx rfl (hb hby d15_16) rfl (XS.iconst X3.here hx rfl (hb hby d15_17) (XS.iadd X3.here hx rfl (hb hby d15_18) rfl kk)))) ?_
  have cf_4 := (A.1.wr W3)
  have cf_5 := (A.2.2.2.other W3 (Or.inl (by first | omega | exact own_ne (by omega) | exact own_le (by omega))))
  obtain ⟨T6, h6, X6, e6, W6, st6⟩ := putF X3 hx hZ hown (host := "") (Or.inl (wd 123 rfl)) Via.refl e3 cf_5 cf_4 (Or.inl (wd 124 rfl)) (wd 93 rfl) (ty := .int) (by decide) rfl rfl (g := (mkF m 19 #[.val (.ref a), .val (.ref x), .val (.ref d), .val (.int (2 : Int32))] [(.int (3 : Int32)), (.ref a)])) rfl rfl (hb hby d15_19)
  have sz6 := W6.size
  have Fw6 := cf_5.same W6
  have N6 := Fr.snoc X6 N3 (g : n0 ≤ a)
  refine go_of (B := (T6.setTop (mkF m 22 #[.val (.ref a), .val (.ref x), .val (.ref d), .val (.int (2 : Int32))] []))) (st6) ?_
  have cf_7 := (V3.other W6 (by first | omega | exact own_ne (by omega) | exact own_le (by omega)))
  have cf_8 := (cf_4.wr W6)
  have cf_9 := ((A.2.1.other W3 (Or.inl (by first | omega | exact own_ne (by omega) | exact own_le (by omega)))).other W6 (Or.inr (slot_ne (Or.inl (wd 112 rfl)) (Or.inl (wd 124 rfl)) (by decide) (t := .int) (t' := .int) (by decide) (by decide))))
  have cf_10 := ((A.2.2.1.other W3 (Or.inl (by first | omega | exact own_ne (by omega) | exact own_le (by omega)))).other W6 (Or.inr (slot_ne (Or.inl (wd 115 rfl)) (Or.inl (wd 124 rfl)) (by decide) (t := (.array (.object "java/lang/Object"))) (t' := .int) (by decide) (by decide))))
  refine go_end X6 (v := none) (fun _ => rfl) Bd.notSynchronized (by decide) (by decide) (Q := (Q_addh2 Z a x d mc kD x0 x1 h0 n0)) ?_ (fun fs hr => X6.returnOut hx Bd.returns (hb hby d15_22) hr)
  unfold Q_addh2
  try rw [e6]
  exact ⟨rfl, N6, (((Keep.refl h0 [a, d]).wr W3 (Or.inl (List.mem_of_getElem? (i := 1) rfl))).wr W6 (Or.inl (List.mem_of_getElem? (i := 0) rfl))), ⟨cf_8, cf_9, cf_10, Fw6⟩, cf_7⟩
def Q_add2 (Z : State) (a : Addr) (x : Addr) (d : Addr) (mc : Int32) (kD : ClassId) (x0 : Addr) (x1 : Addr) (h0 : Heap) (n0 : Nat) (v : Option Value) (h : Heap) (L : List Loc) : Prop := v = some (.int 1) ∧ Fr n0 L ∧ Keep h0 h [a, d] ∧ AL Z h a (mc + (1 : Int32)) d 3 ∧ Arv Z h d kD (.object "java/lang/Object") 10 [.ref x0, .ref x1, .ref x, .null, .null, .null, .null, .null, .null, .null] .null
theorem ef_add2 (m : MethodId) (a : Addr) (x : Addr)  : entryFrame m #[(.ref a), (.ref x)] 2 = mkF m 0 #[.val (.ref a), .val (.ref x)] [] := by first | (simp [entryFrame, mkF, argsToLocals, Value.category]; done) | rfl
theorem add2 (l : Launch) (Z : State) (a0 : Array Value) (hw : TW a0 Z) (ws : List Cond) (a : Addr) (x : Addr) (d : Addr) (mc : Int32) (kD : ClassId) (x0 : Addr) (x1 : Addr) (h0 : Heap) (n0 : Nat) (Z0 : n0 ≤ h0.size) (A : AL Z h0 a mc d 2) (g : n0 ≤ a) (gd : n0 ≤ d) (VD : Arv Z h0 d kD (.object "java/lang/Object") 10 [.ref x0, .ref x1, .null, .null, .null, .null, .null, .null, .null, .null] .null) (OV : Ovr Z kD "java/lang/Object") (Ix : Ins Z h0 x "java/lang/Object" true) (nad : a ≠ d) :
    own_MF l Z MN11 jdk_38_method_25_code 2 (some .boolean) ws (own_R 1 0 0 15) #[(.ref a), (.ref x)] h0 (Q_add2 Z a x d mc kD x0 x1 h0 n0) := by
  have wd := @own_wd _ _ hw
  refine MetFree.of_bodySF (plainFor_of_name pn_java_util_ArrayList) hisR ?_
  intro p e s m args below meth c s₁ Bd hml0 hP hK
  obtain ⟨rfl, hZ, hh⟩ := hP
  have hx := Bd.exec
  have hby := Bd.bytes
  have hml : c.maxLocals = 2 := hml0
  have hown : s.vm.findClass "java/util/ArrayList" = some m.cls := findClass_of_methodNamed Bd.named
  have hnm := (name_of_methodNamed Bd.named Bd.method).1
  have X0 : Stand p l e (own_R 1 0 0 15) s m #[(.ref a), (.ref x)] below meth c s₁ [] 0 0 := Stand.of_body Bd
  have e0 : s₁.heap = h0 := by rw [← hh, Bd.state]; rfl
  have N0 := Fr.nil n0
  have lta := own_nlt (A.1.lt)
  have ltD := own_nlt (VD.lt)
  have ltx := own_nlt (own_inslt Ix)
  have nad' : @Ne Nat a d := nad
  refine go_of (A := s₁.setTop (entryFrame m #[(.ref a), (.ref x)] 2)) (B := s₁.setTop (mkF m 0 #[.val (.ref a), .val (.ref x)] [])) (fun _ kk' => castTop (ef_add2 m a x) kk') ?_
  refine go_of (B := (s₁.setTop (mkF m 2 #[.val (.ref a), .val (.ref x)] [(.ref a), (.ref a)]))) (fun _ kk => XS.aloadN X0.here hx rfl (hb hby d14_0) rfl rfl (XS.dup X0.here hx rfl (hb hby d14_1) rfl rfl kk)) ?_
  obtain ⟨T1, X1, e1, st1⟩ := getF X0 hx hZ hown (host := "") (Or.inl (wd 121 rfl)) (Via.of (wd 122 rfl)) e0 A.2.1 (g := (mkF m 2 #[.val (.ref a), .val (.ref x)] [(.ref a), (.ref a)])) rfl rfl (hb hby d14_2)
  refine go_of (B := (T1.setTop (mkF m 5 #[.val (.ref a), .val (.ref x)] [(.int mc), (.ref a)]))) (st1) ?_
  refine go_of (B := (T1.setTop (mkF m 7 #[.val (.ref a), .val (.ref x)] [(.int (mc + (1 : Int32))), (.ref a)]))) (fun _ kk => XS.iconst X1.here hx rfl (hb hby d14_5) (XS.iadd X1.here hx rfl (hb hby d14_6) rfl kk)) ?_
  obtain ⟨T2, h2, X2, e2, W2, st2⟩ := putF X1 hx hZ hown (host := "") (Or.inl (wd 121 rfl)) (Via.of (wd 122 rfl)) e1 A.2.1 A.1 (Or.inl (wd 112 rfl)) (wd 93 rfl) (ty := .int) (by decide) rfl rfl (g := (mkF m 7 #[.val (.ref a), .val (.ref x)] [(.int (mc + (1 : Int32))), (.ref a)])) rfl rfl (hb hby d14_7)
  have sz2 := W2.size
  have Fw2 := A.2.1.same W2
  have N2 := Fr.snoc X2 N0 (g : n0 ≤ a)
  refine go_of (B := (T2.setTop (mkF m 10 #[.val (.ref a), .val (.ref x)] []))) (st2) ?_
  refine go_of (B := (T2.setTop (mkF m 13 #[.val (.ref a), .val (.ref x)] [(.ref a), (.ref x), (.ref a)]))) (fun _ kk => XS.aloadN X2.here hx rfl (hb hby d14_10) rfl rfl (XS.aloadN X2.here hx rfl (hb hby d14_11) rfl rfl (XS.aloadN X2.here hx rfl (hb hby d14_12) rfl rfl kk))) ?_
  have cf_3 := (A.2.2.1.other W2 (Or.inr (slot_ne (Or.inl (wd 115 rfl)) (Or.inl (wd 112 rfl)) (by decide) (t := (.array (.object "java/lang/Object"))) (t' := .int) (by decide) (by decide))))
  obtain ⟨T4, X4, e4, st4⟩ := getF X2 hx hZ hown (host := "") (Or.inl (wd 114 rfl)) Via.refl e2 cf_3 (g := (mkF m 13 #[.val (.ref a), .val (.ref x)] [(.ref a), (.ref x), (.ref a)])) rfl rfl (hb hby d14_13)
  refine go_of (B := (T4.setTop (mkF m 16 #[.val (.ref a), .val (.ref x)] [(.ref d), (.ref x), (.ref a)]))) (st4) ?_
  refine go_of (B := (T4.setTop (mkF m 17 #[.val (.ref a), .val (.ref x)] [(.ref a), (.ref d), (.ref x), (.ref a)]))) (fun _ kk => XS.aloadN X4.here hx rfl (hb hby d14_16) rfl rfl kk) ?_
  have cf_5 := (A.2.2.2.other W2 (Or.inr (slot_ne (Or.inl (wd 124 rfl)) (Or.inl (wd 112 rfl)) (by decide) (t := .int) (t' := .int) (by decide) (by decide))))
  obtain ⟨T6, X6, e6, st6⟩ := getF X4 hx hZ hown (host := "") (Or.inl (wd 123 rfl)) Via.refl e4 cf_5 (g := (mkF m 17 #[.val (.ref a), .val (.ref x)] [(.ref a), (.ref d), (.ref x), (.ref a)])) rfl rfl (hb hby d14_17)
  refine go_of (B := (T6.setTop (mkF m 20 #[.val (.ref a), .val (.ref x)] [(.int (2 : Int32)), (.ref d), (.ref x), (.ref a)]))) (st6) ?_
  have cf_7 := (A.1.wr W2)
  have cf_8 := (VD.other W2 (by first | omega | exact own_ne (by omega) | exact own_le (by omega)))
  obtain ⟨cq9, q9, q9'⟩ := cf_7.cell
  obtain ⟨_, _, ⟨T9, L9, k9, n9⟩, -, X9, ⟨Lc9, hQ9, l9, y9, z9⟩, st9⟩ := X6.privateBack hx (y := MN12) hown (mvT hZ (wd 125 rfl)) (mvT hZ (wd 126 rfl)) (mvT hZ (wd 128 rfl)) (Cond.privateMethod_at (mvP hZ (wd 127 rfl) (args := #[]))) (mvT hZ (wd 129 rfl)) (by decide) (backOf (W := 0) (addh2 l Z a0 hw [] a x d (mc + (1 : Int32)) kD x0 x1 h2 n0 (by omega) ⟨cf_7, Fw2, cf_3, cf_5⟩ g gd cf_8 OV (Ix.wr W2) nad) hZ (wd 129 rfl) (wd 94 rfl) (by decide) (by decide)) (g := (mkF m 20 #[.val (.ref a), .val (.ref x)] [(.int (2 : Int32)), (.ref d), (.ref x), (.ref a)])) rfl (by rw [hml]; rfl) (Steps.refl _) (a := a) (by rw [e6]; exact q9) q9' (argsL := [(.ref x), (.ref d), (.int (2 : Int32))]) (rest := []) (lenOf pd__Ljava_lang_Object__Ljava_lang_Object_I_V rfl) rfl (Nat.le_of_eq rfl) (hb hby d14_20) (fun _ _ => ⟨rfl, e6, (by decide : 0 + 0 ≤ _), (by decide : 0 + 0 ≤ _)⟩)
  dsimp only [Pt.U, Pt.locs, Pt.cells, Pt.slots] at X9 l9 y9 z9 st9 hQ9
  subst l9 y9 z9
  obtain ⟨rfl, N9q, K9, A9, V9⟩ := hQ9
  have N9 := Fr.app N2 N9q
  have sz9 := K9.1
  refine go_tr (B := (T9.setTop (mkF m 23 #[.val (.ref a), .val (.ref x)] []))) (st9) ?_
  refine go_of (B := (T9.setTop (mkF m 24 #[.val (.ref a), .val (.ref x)] [(.int (1 : Int32))]))) (fun _ kk => XS.iconst X9.here hx rfl (hb hby d14_23) kk) ?_
  refine go_end X9 (v := some (.int (nar .boolean (1 : Int32)))) (fun h => by rw [Bd.returns] at h; cases h) Bd.notSynchronized (by decide) (by decide) (Q := (Q_add2 Z a x d mc kD x0 x1 h0 n0)) ?_ (fun fs hr => retN X9 hx (t := .boolean) Bd.returns (by simp) (hb hby d14_24) hr)
  unfold Q_add2
  exact ⟨rfl, N9, (((Keep.refl h0 [a, d]).wr W2 (Or.inl (List.mem_of_getElem? (i := 0) rfl))).trans K9 (allS (Or.inl (List.mem_of_getElem? (i := 0) rfl)) (allS (Or.inl (List.mem_of_getElem? (i := 1) rfl)) all0))), ⟨A9.1, A9.2.1, A9.2.2.1, A9.2.2.2⟩, V9⟩
theorem d24_0 : decode jdk_29_method_69_code 0 = .ok (.iload_n 0, 1) := by decide +kernel
theorem d24_1 : decode jdk_29_method_69_code 1 = .ok (.iload_n 1, 1) := by decide +kernel
theorem d24_2 : decode jdk_29_method_69_code 2 = .ok (.if_icmp .gt 7, 3) := by decide +kernel
theorem d24_9 : decode jdk_29_method_69_code 9 = .ok (.iload_n 1, 1) := by decide +kernel
theorem d24_10 : decode jdk_29_method_69_code 10 = .ok (.ireturn, 1) := by decide +kernel
def Q_mmin (Z : State) (x : Int32) (y : Int32) (r : Int32) (h0 : Heap) (n0 : Nat) (v : Option Value) (h : Heap) (L : List Loc) : Prop := v = some (.int r) ∧ Fr n0 L ∧ h = h0
theorem d24_5 : decode jdk_29_method_69_code 5 = .ok (.iload_n 0, 1) := by decide +kernel
theorem d24_6 : decode jdk_29_method_69_code 6 = .ok (.goto 4, 3) := by decide +kernel
theorem ef_mmin (m : MethodId) (x : Int32) (y : Int32)  : entryFrame m #[(.int x), (.int y)] 2 = mkF m 0 #[.val (.int x), .val (.int y)] [] := by first | (simp [entryFrame, mkF, argsToLocals, Value.category]; done) | rfl
theorem mmin (l : Launch) (Z : State) (a0 : Array Value) (hw : TW a0 Z) (ws : List Cond) (x : Int32) (y : Int32) (r : Int32) (h0 : Heap) (n0 : Nat) (Z0 : n0 ≤ h0.size) (hr : own_min x y = r) :
    own_MF l Z MN7 jdk_29_method_69_code 2 (some .int) ws (own_R 0 0 0 0) #[(.int x), (.int y)] h0 (Q_mmin Z x y r h0 n0) := by
  have wd := @own_wd _ _ hw
  refine MetFree.of_bodySF (Jvm.Free.JP.mathPlain rfl (by decide +kernel)) hisR ?_
  intro p e s m args below meth c s₁ Bd hml0 hP hK
  obtain ⟨rfl, hZ, hh⟩ := hP
  have hx := Bd.exec
  have hby := Bd.bytes
  have hml : c.maxLocals = 2 := hml0
  have hown : s.vm.findClass "java/lang/Math" = some m.cls := findClass_of_methodNamed Bd.named
  have hnm := (name_of_methodNamed Bd.named Bd.method).1
  have X0 : Stand p l e (own_R 0 0 0 0) s m #[(.int x), (.int y)] below meth c s₁ [] 0 0 := Stand.of_body Bd
  have e0 : s₁.heap = h0 := by rw [← hh, Bd.state]; rfl
  have N0 := Fr.nil n0
  refine go_of (A := s₁.setTop (entryFrame m #[(.int x), (.int y)] 2)) (B := s₁.setTop (mkF m 0 #[.val (.int x), .val (.int y)] [])) (fun _ kk' => castTop (ef_mmin m x y) kk') ?_
  refine go_of (B := (s₁.setTop (mkF m 2 #[.val (.int x), .val (.int y)] [(.int y), (.int x)]))) (fun _ kk => XS.iloadN X0.here hx rfl (hb hby d24_0) rfl (XS.iloadN X0.here hx rfl (hb hby d24_1) rfl kk)) ?_
  by_cases hcc1 : y < x
  · refine go_of (B := (s₁.setTop (mkF m 10 #[.val (.int x), .val (.int y)] [(.int y)]))) (fun _ kk => XS.icmpYes X0.here hx rfl (pc0 := 2) (pc' := 9) rfl (hb hby d24_2) rfl (tlt hcc1).2.2.1 (by decide) (by decide) (XS.iloadN X0.here hx rfl (hb hby d24_9) rfl kk)) ?_
    refine go_end X0 (v := some (.int y)) (fun h => by rw [Bd.returns] at h; cases h) Bd.notSynchronized (by decide) (by decide) (Q := (Q_mmin Z x y r h0 n0)) ?_ (fun fs hr => own_retI X0 hx Bd.returns (hb hby d24_10) hr)
    unfold Q_mmin
    try rw [e0]
    refine ⟨?_, N0, rfl⟩
    rw [← hr]; simp [own_min, hcc1]
  · refine go_of (B := (s₁.setTop (mkF m 10 #[.val (.int x), .val (.int y)] [(.int x)]))) (fun _ kk => XS.icmpNo X0.here hx rfl (hb hby d24_2) rfl (flt hcc1).2.2.1 (XS.iloadN X0.here hx rfl (hb hby d24_5) rfl (XS.goto X0.here hx rfl (pc0 := 6) (pc' := 10) rfl (hb hby d24_6) (by decide) (by decide) kk))) ?_
    refine go_end X0 (v := some (.int x)) (fun h => by rw [Bd.returns] at h; cases h) Bd.notSynchronized (by decide) (by decide) (Q := (Q_mmin Z x y r h0 n0)) ?_ (fun fs hr => own_retI X0 hx Bd.returns (hb hby d24_10) hr)
    unfold Q_mmin
    try rw [e0]
    refine ⟨?_, N0, rfl⟩
    rw [← hr]; simp [own_min, hcc1]
theorem d28_0 : decode jdk_47_method_1_code 0 = .ok (.aload_n 0, 1) := by decide +kernel
theorem d28_1 : decode jdk_47_method_1_code 1 = .ok (.invokespecial 1, 3) := by decide +kernel
theorem d28_4 : decode jdk_47_method_1_code 4 = .ok (.return_, 1) := by decide +kernel
def Q_rm28 (Z : State) (a : Addr) (h0 : Heap) (n0 : Nat) (v : Option Value) (h : Heap) (L : List Loc) : Prop := v = none ∧ Fr n0 L ∧ h = h0
theorem pn_java_util_ImmutableCollections_AbstractImmutableCollection : plainName "java/util/ImmutableCollections$AbstractImmutableCollection" = true := by first | (simp [plainName, overriddenIn]; done) | decide +kernel
theorem ef_rm28 (m : MethodId) (a : Addr)  : entryFrame m #[(.ref a)] 1 = mkF m 0 #[.val (.ref a)] [] := by first | (simp [entryFrame, mkF, argsToLocals, Value.category]; done) | rfl
theorem rm28 (l : Launch) (Z : State) (a0 : Array Value) (hw : TW a0 Z) (ws : List Cond) (a : Addr) (h0 : Heap) (n0 : Nat) (Z0 : n0 ≤ h0.size)  :
    own_MF l Z (⟨"java/util/ImmutableCollections$AbstractImmutableCollection", "<init>", "()V"⟩ : MethodName) jdk_47_method_1_code 1 none ws (own_R 2 0 0 24) #[(.ref a)] h0 (Q_rm28 Z a h0 n0) := by
  have wd := @own_wd _ _ hw
  refine MetFree.of_bodySF (plainFor_of_name pn_java_util_ImmutableCollections_AbstractImmutableCollection) hisR ?_
  intro p e s m args below meth c s₁ Bd hml0 hP hK
  obtain ⟨rfl, hZ, hh⟩ := hP
  have hx := Bd.exec
  have hby := Bd.bytes
  have hml : c.maxLocals = 1 := hml0
  have hown : s.vm.findClass "java/util/ImmutableCollections$AbstractImmutableCollection" = some m.cls := findClass_of_methodNamed Bd.named
  have hnm := (name_of_methodNamed Bd.named Bd.method).1
  have X0 : Stand p l e (own_R 2 0 0 24) s m #[(.ref a)] below meth c s₁ [] 0 0 := Stand.of_body Bd
  have e0 : s₁.heap = h0 := by rw [← hh, Bd.state]; rfl
  have N0 := Fr.nil n0
  refine go_of (A := s₁.setTop (entryFrame m #[(.ref a)] 1)) (B := s₁.setTop (mkF m 0 #[.val (.ref a)] [])) (fun _ kk' => castTop (ef_rm28 m a) kk') ?_
  refine go_of (B := (s₁.setTop (mkF m 1 #[.val (.ref a)] [(.ref a)]))) (fun _ kk => XS.aloadN X0.here hx rfl (hb hby d28_0) rfl rfl kk) ?_
  obtain ⟨_, _, ⟨T1, L1, k1, n1⟩, -, X1, ⟨Lc1, hQ1, l1, y1, z1⟩, st1⟩ := X0.specialBack hx (y := MN9) rfl hown (mvT hZ (wd 218 rfl)) (mvT hZ (wd 105 rfl)) (mvT hZ (wd 109 rfl)) (by decide) (backOf (W := 0) (rm13 l Z a0 hw [] a h0 n0 Z0) hZ (wd 109 rfl) (wd 108 rfl) (by decide) (by decide)) (g := (mkF m 1 #[.val (.ref a)] [(.ref a)])) rfl (by rw [hml]; rfl) (Steps.refl _) (a := a) (argsL := []) (rest := []) (lenOf pd___V rfl) rfl (Nat.le_of_eq rfl) (hb hby d28_1) (fun _ _ => ⟨rfl, e0, (by decide : 0 + 0 ≤ _), (by decide : 0 + 0 ≤ _)⟩)
  dsimp only [Pt.U, Pt.locs, Pt.cells, Pt.slots] at X1 l1 y1 z1 st1 hQ1
  subst l1 y1 z1
  obtain ⟨rfl, N1q, e1⟩ := hQ1
  have N1 := Fr.app N0 N1q
  refine go_tr (B := (T1.setTop (mkF m 4 #[.val (.ref a)] []))) (st1) ?_
  refine go_end X1 (v := none) (fun _ => rfl) Bd.notSynchronized (by decide) (by decide) (Q := (Q_rm28 Z a h0 n0)) ?_ (fun fs hr => X1.returnOut hx Bd.returns (hb hby d28_4) hr)
  unfold Q_rm28
  try rw [e1]
  exact ⟨rfl, N1, rfl⟩
theorem d27_0 : decode jdk_46_method_1_code 0 = .ok (.aload_n 0, 1) := by decide +kernel
theorem d27_1 : decode jdk_46_method_1_code 1 = .ok (.invokespecial 1, 3) := by decide +kernel
theorem d27_4 : decode jdk_46_method_1_code 4 = .ok (.return_, 1) := by decide +kernel
def Q_rm27 (Z : State) (a : Addr) (h0 : Heap) (n0 : Nat) (v : Option Value) (h : Heap) (L : List Loc) : Prop := v = none ∧ Fr n0 L ∧ h = h0
theorem pn_java_util_ImmutableCollections_AbstractImmutableList : plainName "java/util/ImmutableCollections$AbstractImmutableList" = true := by first | (simp [plainName, overriddenIn]; done) | decide +kernel
theorem ef_rm27 (m : MethodId) (a : Addr)  : entryFrame m #[(.ref a)] 1 = mkF m 0 #[.val (.ref a)] [] := by first | (simp [entryFrame, mkF, argsToLocals, Value.category]; done) | rfl
theorem rm27 (l : Launch) (Z : State) (a0 : Array Value) (hw : TW a0 Z) (ws : List Cond) (a : Addr) (h0 : Heap) (n0 : Nat) (Z0 : n0 ≤ h0.size)  :
    own_MF l Z MN20 jdk_46_method_1_code 1 none ws (own_R 3 0 0 36) #[(.ref a)] h0 (Q_rm27 Z a h0 n0) := by
  have wd := @own_wd _ _ hw
  refine MetFree.of_bodySF (plainFor_of_name pn_java_util_ImmutableCollections_AbstractImmutableList) hisR ?_
  intro p e s m args below meth c s₁ Bd hml0 hP hK
  obtain ⟨rfl, hZ, hh⟩ := hP
  have hx := Bd.exec
  have hby := Bd.bytes
  have hml : c.maxLocals = 1 := hml0
  have hown : s.vm.findClass "java/util/ImmutableCollections$AbstractImmutableList" = some m.cls := findClass_of_methodNamed Bd.named
  have hnm := (name_of_methodNamed Bd.named Bd.method).1
  have X0 : Stand p l e (own_R 3 0 0 36) s m #[(.ref a)] below meth c s₁ [] 0 0 := Stand.of_body Bd
  have e0 : s₁.heap = h0 := by rw [← hh, Bd.state]; rfl
  have N0 := Fr.nil n0
  refine go_of (A := s₁.setTop (entryFrame m #[(.ref a)] 1)) (B := s₁.setTop (mkF m 0 #[.val (.ref a)] [])) (fun _ kk' => castTop (ef_rm27 m a) kk') ?_
  refine go_of (B := (s₁.setTop (mkF m 1 #[.val (.ref a)] [(.ref a)]))) (fun _ kk => XS.aloadN X0.here hx rfl (hb hby d27_0) rfl rfl kk) ?_
  obtain ⟨_, _, ⟨T1, L1, k1, n1⟩, -, X1, ⟨Lc1, hQ1, l1, y1, z1⟩, st1⟩ := X0.specialBack hx (y := (⟨"java/util/ImmutableCollections$AbstractImmutableCollection", "<init>", "()V"⟩ : MethodName)) rfl hown (mvT hZ (wd 212 rfl)) (mvT hZ (wd 213 rfl)) (mvT hZ (wd 217 rfl)) (by decide) (backOf (W := 0) (rm28 l Z a0 hw [] a h0 n0 Z0) hZ (wd 217 rfl) (wd 216 rfl) (by decide) (by decide)) (g := (mkF m 1 #[.val (.ref a)] [(.ref a)])) rfl (by rw [hml]; rfl) (Steps.refl _) (a := a) (argsL := []) (rest := []) (lenOf pd___V rfl) rfl (Nat.le_of_eq rfl) (hb hby d27_1) (fun _ _ => ⟨rfl, e0, (by decide : 0 + 0 ≤ _), (by decide : 0 + 0 ≤ _)⟩)
  dsimp only [Pt.U, Pt.locs, Pt.cells, Pt.slots] at X1 l1 y1 z1 st1 hQ1
  subst l1 y1 z1
  obtain ⟨rfl, N1q, e1⟩ := hQ1
  have N1 := Fr.app N0 N1q
  refine go_tr (B := (T1.setTop (mkF m 4 #[.val (.ref a)] []))) (st1) ?_
  refine go_end X1 (v := none) (fun _ => rfl) Bd.notSynchronized (by decide) (by decide) (Q := (Q_rm27 Z a h0 n0)) ?_ (fun fs hr => X1.returnOut hx Bd.returns (hb hby d27_4) hr)
  unfold Q_rm27
  try rw [e1]
  exact ⟨rfl, N1, rfl⟩
theorem d26_0 : decode jdk_44_method_1_code 0 = .ok (.aload_n 0, 1) := by decide +kernel
theorem d26_1 : decode jdk_44_method_1_code 1 = .ok (.invokespecial 1, 3) := by decide +kernel
theorem d26_4 : decode jdk_44_method_1_code 4 = .ok (.aload_n 0, 1) := by decide +kernel
theorem d26_5 : decode jdk_44_method_1_code 5 = .ok (.aload_n 1, 1) := by decide +kernel
theorem d26_6 : decode jdk_44_method_1_code 6 = .ok (.invokestatic 7, 3) := by decide +kernel
theorem pd__Ljava_lang_Object__Ljava_lang_Object_ : parseMethodDescriptor "(Ljava/lang/Object;)Ljava/lang/Object;" = some ⟨[(.object "java/lang/Object")], some (.object "java/lang/Object")⟩ := by decide +kernel
theorem d26_9 : decode jdk_44_method_1_code 9 = .ok (.putfield 13, 3) := by decide +kernel
theorem d26_12 : decode jdk_44_method_1_code 12 = .ok (.aload_n 0, 1) := by decide +kernel
theorem d26_13 : decode jdk_44_method_1_code 13 = .ok (.getstatic 19, 3) := by decide +kernel
theorem d26_16 : decode jdk_44_method_1_code 16 = .ok (.putfield 24, 3) := by decide +kernel
theorem d26_19 : decode jdk_44_method_1_code 19 = .ok (.return_, 1) := by decide +kernel
def Q_l12a (Z : State) (a : Addr) (x0 : Addr) (v0 : Value) (v1 : Value) (wM : Addr) (h0 : Heap) (n0 : Nat) (v : Option Value) (h : Heap) (L : List Loc) : Prop := v = none ∧ Fr n0 L ∧ Keep h0 h [a] ∧ L2 Z h a x0 wM
theorem pn_java_util_ImmutableCollections_List12 : plainName "java/util/ImmutableCollections$List12" = true := by first | (simp [plainName, overriddenIn]; done) | decide +kernel
theorem ef_l12a (m : MethodId) (a : Addr) (x0 : Addr)  : entryFrame m #[(.ref a), (.ref x0)] 2 = mkF m 0 #[.val (.ref a), .val (.ref x0)] [] := by first | (simp [entryFrame, mkF, argsToLocals, Value.category]; done) | rfl
theorem l12a (l : Launch) (Z : State) (a0 : Array Value) (hw : TW a0 Z) (ws : List Cond) (a : Addr) (x0 : Addr) (v0 : Value) (v1 : Value) (wM : Addr) (h0 : Heap) (n0 : Nat) (Z0 : n0 ≤ h0.size) (O : Old Z n0 h0) (SM : Sta Z Z.heap "java/util/ImmutableCollections" "EMPTY" "Ljava/lang/Object;" (.ref wM)) (Ea : Exa Z h0 a "java/util/ImmutableCollections$List12") (Fa0 : Fld Z h0 a "java/util/ImmutableCollections$List12" "e0" "Ljava/lang/Object;" v0) (Fa1 : Fld Z h0 a "java/util/ImmutableCollections$List12" "e1" "Ljava/lang/Object;" v1) (g : n0 ≤ a) :
    own_MF l Z (⟨"java/util/ImmutableCollections$List12", "<init>", "(Ljava/lang/Object;)V"⟩ : MethodName) jdk_44_method_1_code 2 none ws (own_R 4 0 0 48) #[(.ref a), (.ref x0)] h0 (Q_l12a Z a x0 v0 v1 wM h0 n0) := by
  have wd := @own_wd _ _ hw
  refine MetFree.of_bodySF (plainFor_of_name pn_java_util_ImmutableCollections_List12) hisR ?_
  intro p e s m args below meth c s₁ Bd hml0 hP hK
  obtain ⟨rfl, hZ, hh⟩ := hP
  have hx := Bd.exec
  have hby := Bd.bytes
  have hml : c.maxLocals = 2 := hml0
  have hown : s.vm.findClass "java/util/ImmutableCollections$List12" = some m.cls := findClass_of_methodNamed Bd.named
  have hnm := (name_of_methodNamed Bd.named Bd.method).1
  have X0 : Stand p l e (own_R 4 0 0 48) s m #[(.ref a), (.ref x0)] below meth c s₁ [] 0 0 := Stand.of_body Bd
  have e0 : s₁.heap = h0 := by rw [← hh, Bd.state]; rfl
  have N0 := Fr.nil n0
  have lta := own_nlt (Ea.lt)
  refine go_of (A := s₁.setTop (entryFrame m #[(.ref a), (.ref x0)] 2)) (B := s₁.setTop (mkF m 0 #[.val (.ref a), .val (.ref x0)] [])) (fun _ kk' => castTop (ef_l12a m a x0) kk') ?_
  refine go_of (B := (s₁.setTop (mkF m 1 #[.val (.ref a), .val (.ref x0)] [(.ref a)]))) (fun _ kk => XS.aloadN X0.here hx rfl (hb hby d26_0) rfl rfl kk) ?_
  obtain ⟨_, _, ⟨T1, L1, k1, n1⟩, -, X1, ⟨Lc1, hQ1, l1, y1, z1⟩, st1⟩ := X0.specialBack hx (y := MN20) rfl hown (mvT hZ (wd 206 rfl)) (mvT hZ (wd 207 rfl)) (mvT hZ (wd 211 rfl)) (by decide) (backOf (W := 0) (rm27 l Z a0 hw [] a h0 n0 (by omega)) hZ (wd 211 rfl) (wd 210 rfl) (by decide) (by decide)) (g := (mkF m 1 #[.val (.ref a), .val (.ref x0)] [(.ref a)])) rfl (by rw [hml]; rfl) (Steps.refl _) (a := a) (argsL := []) (rest := []) (lenOf pd___V rfl) rfl (Nat.le_of_eq rfl) (hb hby d26_1) (fun _ _ => ⟨rfl, e0, (by decide : 0 + 0 ≤ _), (by decide : 0 + 0 ≤ _)⟩)
  dsimp only [Pt.U, Pt.locs, Pt.cells, Pt.slots] at X1 l1 y1 z1 st1 hQ1
  subst l1 y1 z1
  obtain ⟨rfl, N1q, e1⟩ := hQ1
  have N1 := Fr.app N0 N1q
  refine go_tr (B := (T1.setTop (mkF m 4 #[.val (.ref a), .val (.ref x0)] []))) (st1) ?_
  refine go_of (B := (T1.setTop (mkF m 6 #[.val (.ref a), .val (.ref x0)] [(.ref x0), (.ref a)]))) (fun _ kk => XS.aloadN X1.here hx rfl (hb hby d26_4) rfl rfl (XS.aloadN X1.here hx rfl (hb hby d26_5) rfl rfl kk)) ?_
  obtain ⟨_, _, ⟨T2, L2, k2, n2⟩, -, X2, ⟨Lc2, hQ2, l2, y2, z2⟩, st2⟩ := Jvm.LawKit.callS X1 hx (y := MN32) hown (mvT hZ (wd 220 rfl)) (mvT hZ (wd 221 rfl)) (mvT hZ (wd 62 rfl)) (mvT hZ (wd 222 rfl)) (by decide) (backOf (W := 1) (rnn1 l Z a0 hw [] x0 h0 n0 (by omega)) hZ (wd 222 rfl) (wd 62 rfl) (by decide) (by decide)) (g := (mkF m 6 #[.val (.ref a), .val (.ref x0)] [(.ref x0), (.ref a)])) rfl (by rw [hml]; rfl) (argsL := [(.ref x0)]) (rest := [(.ref a)]) (lenOf pd__Ljava_lang_Object__Ljava_lang_Object_ rfl) rfl (Nat.le_of_eq rfl) (hb hby d26_6) (fun _ _ => ⟨rfl, e1, (by decide : 0 + 0 ≤ _), (by decide : 0 + 0 ≤ _)⟩)
  dsimp only [Pt.U, Pt.locs, Pt.cells, Pt.slots] at X2 l2 y2 z2 st2 hQ2
  subst l2 y2 z2
  obtain ⟨rfl, N2q, e2⟩ := hQ2
  have N2 := Fr.app N1 N2q
  refine go_of (B := (T2.setTop (mkF m 9 #[.val (.ref a), .val (.ref x0)] [(.ref x0), (.ref a)]))) (st2) ?_
  obtain ⟨T3, h3, X3, e3, W3, st3⟩ := putF X2 hx hZ hown (host := "") (Or.inl (wd 223 rfl)) Via.refl e2 Fa0 Ea (Or.inr ⟨(wd 224 rfl), rfl, hnm⟩) (wd 200 rfl) (ty := (.object "java/lang/Object")) (by decide) rfl rfl (g := (mkF m 9 #[.val (.ref a), .val (.ref x0)] [(.ref x0), (.ref a)])) rfl rfl (hb hby d26_9)
  have sz3 := W3.size
  have Fw3 := Fa0.same W3
  have N3 := Fr.snoc X3 N2 (g : n0 ≤ a)
  refine go_of (B := (T3.setTop (mkF m 12 #[.val (.ref a), .val (.ref x0)] []))) (st3) ?_
  refine go_of (B := (T3.setTop (mkF m 13 #[.val (.ref a), .val (.ref x0)] [(.ref a)]))) (fun _ kk => XS.aloadN X3.here hx rfl (hb hby d26_12) rfl rfl kk) ?_
  have cf_4 := (O.wr W3 (by first | omega | exact own_ne (by omega) | exact own_le (by omega)))
  obtain ⟨T5, X5, e5, st5⟩ := getS2 X3 hx hZ hown (Or.inr (wd 225 rfl)) Via.refl e3 (SM.ext cf_4.2) (g := (mkF m 13 #[.val (.ref a), .val (.ref x0)] [(.ref a)])) rfl (hb hby d26_13)
  refine go_of (B := (T5.setTop (mkF m 16 #[.val (.ref a), .val (.ref x0)] [(.ref wM), (.ref a)]))) (st5) ?_
  have cf_6 := (Ea.wr W3)
  have cf_7 := (Fa1.other W3 (Or.inr (slot_ne (Or.inr (wd 227 rfl)) (Or.inr (wd 224 rfl)) (by decide) (t := (.object "java/lang/Object")) (t' := (.object "java/lang/Object")) (by decide) (by decide))))
  obtain ⟨T8, h8, X8, e8, W8, st8⟩ := putF X5 hx hZ hown (host := "") (Or.inl (wd 226 rfl)) Via.refl e5 cf_7 cf_6 (Or.inr ⟨(wd 227 rfl), rfl, hnm⟩) (wd 200 rfl) (ty := (.object "java/lang/Object")) (by decide) rfl rfl (g := (mkF m 16 #[.val (.ref a), .val (.ref x0)] [(.ref wM), (.ref a)])) rfl rfl (hb hby d26_16)
  have sz8 := W8.size
  have Fw8 := cf_7.same W8
  have N8 := Fr.snoc X8 N3 (g : n0 ≤ a)
  refine go_of (B := (T8.setTop (mkF m 19 #[.val (.ref a), .val (.ref x0)] []))) (st8) ?_
  have cf_9 := (cf_6.wr W8)
  have cf_10 := (Fw3.other W8 (Or.inr (slot_ne (Or.inr (wd 224 rfl)) (Or.inr (wd 227 rfl)) (by decide) (t := (.object "java/lang/Object")) (t' := (.object "java/lang/Object")) (by decide) (by decide))))
  refine go_end X8 (v := none) (fun _ => rfl) Bd.notSynchronized (by decide) (by decide) (Q := (Q_l12a Z a x0 v0 v1 wM h0 n0)) ?_ (fun fs hr => X8.returnOut hx Bd.returns (hb hby d26_19) hr)
  unfold Q_l12a
  try rw [e8]
  exact ⟨rfl, N8, (((Keep.refl h0 [a]).wr W3 (Or.inl (List.mem_of_getElem? (i := 0) rfl))).wr W8 (Or.inl (List.mem_of_getElem? (i := 0) rfl))), ⟨cf_9, cf_10, Fw8⟩⟩
theorem d36_0 : decode jdk_44_method_2_code 0 = .ok (.aload_n 0, 1) := by decide +kernel
theorem d36_1 : decode jdk_44_method_2_code 1 = .ok (.invokespecial 1, 3) := by decide +kernel
theorem d36_4 : decode jdk_44_method_2_code 4 = .ok (.aload_n 0, 1) := by decide +kernel
theorem d36_5 : decode jdk_44_method_2_code 5 = .ok (.aload_n 1, 1) := by decide +kernel
theorem d36_6 : decode jdk_44_method_2_code 6 = .ok (.invokestatic 7, 3) := by decide +kernel
theorem d36_9 : decode jdk_44_method_2_code 9 = .ok (.putfield 13, 3) := by decide +kernel
theorem d36_12 : decode jdk_44_method_2_code 12 = .ok (.aload_n 0, 1) := by decide +kernel
theorem d36_13 : decode jdk_44_method_2_code 13 = .ok (.aload_n 2, 1) := by decide +kernel
theorem d36_14 : decode jdk_44_method_2_code 14 = .ok (.invokestatic 7, 3) := by decide +kernel
theorem d36_17 : decode jdk_44_method_2_code 17 = .ok (.putfield 24, 3) := by decide +kernel
theorem d36_20 : decode jdk_44_method_2_code 20 = .ok (.return_, 1) := by decide +kernel
def Q_l12b (Z : State) (a : Addr) (x0 : Addr) (x1 : Addr) (v0 : Value) (v1 : Value) (h0 : Heap) (n0 : Nat) (v : Option Value) (h : Heap) (L : List Loc) : Prop := v = none ∧ Fr n0 L ∧ Keep h0 h [a] ∧ L2 Z h a x0 x1
theorem ef_l12b (m : MethodId) (a : Addr) (x0 : Addr) (x1 : Addr)  : entryFrame m #[(.ref a), (.ref x0), (.ref x1)] 3 = mkF m 0 #[.val (.ref a), .val (.ref x0), .val (.ref x1)] [] := by first | (simp [entryFrame, mkF, argsToLocals, Value.category]; done) | rfl
theorem l12b (l : Launch) (Z : State) (a0 : Array Value) (hw : TW a0 Z) (ws : List Cond) (a : Addr) (x0 : Addr) (x1 : Addr) (v0 : Value) (v1 : Value) (h0 : Heap) (n0 : Nat) (Z0 : n0 ≤ h0.size) (Ea : Exa Z h0 a "java/util/ImmutableCollections$List12") (Fa0 : Fld Z h0 a "java/util/ImmutableCollections$List12" "e0" "Ljava/lang/Object;" v0) (Fa1 : Fld Z h0 a "java/util/ImmutableCollections$List12" "e1" "Ljava/lang/Object;" v1) (g : n0 ≤ a) :
    own_MF l Z (⟨"java/util/ImmutableCollections$List12", "<init>", "(Ljava/lang/Object;Ljava/lang/Object;)V"⟩ : MethodName) jdk_44_method_2_code 3 none ws (own_R 4 0 0 48) #[(.ref a), (.ref x0), (.ref x1)] h0 (Q_l12b Z a x0 x1 v0 v1 h0 n0) := by
  have wd := @own_wd _ _ hw
  refine MetFree.of_bodySF (plainFor_of_name pn_java_util_ImmutableCollections_List12) hisR ?_
  intro p e s m args below meth c s₁ Bd hml0 hP hK
  obtain ⟨rfl, hZ, hh⟩ := hP
  have hx := Bd.exec
  have hby := Bd.bytes
  have hml : c.maxLocals = 3 := hml0
  have hown : s.vm.findClass "java/util/ImmutableCollections$List12" = some m.cls := findClass_of_methodNamed Bd.named
  have hnm := (name_of_methodNamed Bd.named Bd.method).1
  have X0 : Stand p l e (own_R 4 0 0 48) s m #[(.ref a), (.ref x0), (.ref x1)] below meth c s₁ [] 0 0 := Stand.of_body Bd
  have e0 : s₁.heap = h0 := by rw [← hh, Bd.state]; rfl
  have N0 := Fr.nil n0
  have lta := own_nlt (Ea.lt)
  refine go_of (A := s₁.setTop (entryFrame m #[(.ref a), (.ref x0), (.ref x1)] 3)) (B := s₁.setTop (mkF m 0 #[.val (.ref a), .val (.ref x0), .val (.ref x1)] [])) (fun _ kk' => castTop (ef_l12b m a x0 x1) kk') ?_
  refine go_of (B := (s₁.setTop (mkF m 1 #[.val (.ref a), .val (.ref x0), .val (.ref x1)] [(.ref a)]))) (fun _ kk => XS.aloadN X0.here hx rfl (hb hby d36_0) rfl rfl kk) ?_
  obtain ⟨_, _, ⟨T1, L1, k1, n1⟩, -, X1, ⟨Lc1, hQ1, l1, y1, z1⟩, st1⟩ := X0.specialBack hx (y := MN20) rfl hown (mvT hZ (wd 206 rfl)) (mvT hZ (wd 207 rfl)) (mvT hZ (wd 211 rfl)) (by decide) (backOf (W := 0) (rm27 l Z a0 hw [] a h0 n0 (by omega)) hZ (wd 211 rfl) (wd 210 rfl) (by decide) (by decide)) (g := (mkF m 1 #[.val (.ref a), .val (.ref x0), .val (.ref x1)] [(.ref a)])) rfl (by rw [hml]; rfl) (Steps.refl _) (a := a) (argsL := []) (rest := []) (lenOf pd___V rfl) rfl (Nat.le_of_eq rfl) (hb hby d36_1) (fun _ _ => ⟨rfl, e0, (by decide : 0 + 0 ≤ _), (by decide : 0 + 0 ≤ _)⟩)
  dsimp only [Pt.U, Pt.locs, Pt.cells, Pt.slots] at X1 l1 y1 z1 st1 hQ1
  subst l1 y1 z1
  obtain ⟨rfl, N1q, e1⟩ := hQ1
  have N1 := Fr.app N0 N1q
  refine go_tr (B := (T1.setTop (mkF m 4 #[.val (.ref a), .val (.ref x0), .val (.ref x1)] []))) (st1) ?_
  refine go_of (B := (T1.setTop (mkF m 6 #[.val (.ref a), .val (.ref x0), .val (.ref x1)] [(.ref x0), (.ref a)]))) (fun _ kk => XS.aloadN X1.here hx rfl (hb hby d36_4) rfl rfl (XS.aloadN X1.here hx rfl (hb hby d36_5) rfl rfl kk)) ?_
  obtain ⟨_, _, ⟨T2, L2, k2, n2⟩, -, X2, ⟨Lc2, hQ2, l2, y2, z2⟩, st2⟩ := Jvm.LawKit.callS X1 hx (y := MN32) hown (mvT hZ (wd 220 rfl)) (mvT hZ (wd 221 rfl)) (mvT hZ (wd 62 rfl)) (mvT hZ (wd 222 rfl)) (by decide) (backOf (W := 1) (rnn1 l Z a0 hw [] x0 h0 n0 (by omega)) hZ (wd 222 rfl) (wd 62 rfl) (by decide) (by decide)) (g := (mkF m 6 #[.val (.ref a), .val (.ref x0), .val (.ref x1)] [(.ref x0), (.ref a)])) rfl (by rw [hml]; rfl) (argsL := [(.ref x0)]) (rest := [(.ref a)]) (lenOf pd__Ljava_lang_Object__Ljava_lang_Object_ rfl) rfl (Nat.le_of_eq rfl) (hb hby d36_6) (fun _ _ => ⟨rfl, e1, (by decide : 0 + 0 ≤ _), (by decide : 0 + 0 ≤ _)⟩)
  dsimp only [Pt.U, Pt.locs, Pt.cells, Pt.slots] at X2 l2 y2 z2 st2 hQ2
  subst l2 y2 z2
  obtain ⟨rfl, N2q, e2⟩ := hQ2
  have N2 := Fr.app N1 N2q
  refine go_of (B := (T2.setTop (mkF m 9 #[.val (.ref a), .val (.ref x0), .val (.ref x1)] [(.ref x0), (.ref a)]))) (st2) ?_
  obtain ⟨T3, h3, X3, e3, W3, st3⟩ := putF X2 hx hZ hown (host := "") (Or.inl (wd 223 rfl)) Via.refl e2 Fa0 Ea (Or.inr ⟨(wd 224 rfl), rfl, hnm⟩) (wd 200 rfl) (ty := (.object "java/lang/Object")) (by decide) rfl rfl (g := (mkF m 9 #[.val (.ref a), .val (.ref x0), .val (.ref x1)] [(.ref x0), (.ref a)])) rfl rfl (hb hby d36_9)
  have sz3 := W3.size
  have Fw3 := Fa0.same W3
  have N3 := Fr.snoc X3 N2 (g : n0 ≤ a)
  refine go_of (B := (T3.setTop (mkF m 12 #[.val (.ref a), .val (.ref x0), .val (.ref x1)] []))) (st3) ?_
  refine go_of (B := (T3.setTop (mkF m 14 #[.val (.ref a), .val (.ref x0), .val (.ref x1)] [(.ref x1), (.ref a)]))) (fun _ kk => XS.aloadN X3.here hx rfl (hb hby d36_12) rfl rfl (XS.aloadN X3.here hx rfl (hb hby d36_13) rfl rfl kk)) ?_
  obtain ⟨_, _, ⟨T4, L4, k4, n4⟩, -, X4, ⟨Lc4, hQ4, l4, y4, z4⟩, st4⟩ := Jvm.LawKit.callS X3 hx (y := MN32) hown (mvT hZ (wd 220 rfl)) (mvT hZ (wd 221 rfl)) (mvT hZ (wd 62 rfl)) (mvT hZ (wd 222 rfl)) (by decide) (backOf (W := 1) (rnn1 l Z a0 hw [] x1 h3 n0 (by omega)) hZ (wd 222 rfl) (wd 62 rfl) (by decide) (by decide)) (g := (mkF m 14 #[.val (.ref a), .val (.ref x0), .val (.ref x1)] [(.ref x1), (.ref a)])) rfl (by rw [hml]; rfl) (argsL := [(.ref x1)]) (rest := [(.ref a)]) (lenOf pd__Ljava_lang_Object__Ljava_lang_Object_ rfl) rfl (Nat.le_of_eq rfl) (hb hby d36_14) (fun _ _ => ⟨rfl, e3, (by decide : 0 + 0 ≤ _), (by decide : 0 + 0 ≤ _)⟩)
  dsimp only [Pt.U, Pt.locs, Pt.cells, Pt.slots] at X4 l4 y4 z4 st4 hQ4
  subst l4 y4 z4
  obtain ⟨rfl, N4q, e4⟩ := hQ4
  have N4 := Fr.app N3 N4q
  refine go_of (B := (T4.setTop (mkF m 17 #[.val (.ref a), .val (.ref x0), .val (.ref x1)] [(.ref x1), (.ref a)]))) (st4) ?_
  have cf_5 := (Ea.wr W3)
  have cf_6 := (Fa1.other W3 (Or.inr (slot_ne (Or.inr (wd 227 rfl)) (Or.inr (wd 224 rfl)) (by decide) (t := (.object "java/lang/Object")) (t' := (.object "java/lang/Object")) (by decide) (by decide))))
  obtain ⟨T7, h7, X7, e7, W7, st7⟩ := putF X4 hx hZ hown (host := "") (Or.inl (wd 226 rfl)) Via.refl e4 cf_6 cf_5 (Or.inr ⟨(wd 227 rfl), rfl, hnm⟩) (wd 200 rfl) (ty := (.object "java/lang/Object")) (by decide) rfl rfl (g := (mkF m 17 #[.val (.ref a), .val (.ref x0), .val (.ref x1)] [(.ref x1), (.ref a)])) rfl rfl (hb hby d36_17)
  have sz7 := W7.size
  have Fw7 := cf_6.same W7
  have N7 := Fr.snoc X7 N4 (g : n0 ≤ a)
  refine go_of (B := (T7.setTop (mkF m 20 #[.val (.ref a), .val (.ref x0), .val (.ref x1)] []))) (st7) ?_
  have cf_8 := (cf_5.wr W7)
  have cf_9 := (Fw3.other W7 (Or.inr (slot_ne (Or.inr (wd 224 rfl)) (Or.inr (wd 227 rfl)) (by decide) (t := (.object "java/lang/Object")) (t' := (.object "java/lang/Object")) (by decide) (by decide))))
  refine go_end X7 (v := none) (fun _ => rfl) Bd.notSynchronized (by decide) (by decide) (Q := (Q_l12b Z a x0 x1 v0 v1 h0 n0)) ?_ (fun fs hr => X7.returnOut hx Bd.returns (hb hby d36_20) hr)
  unfold Q_l12b
  try rw [e7]
  exact ⟨rfl, N7, (((Keep.refl h0 [a]).wr W3 (Or.inl (List.mem_of_getElem? (i := 0) rfl))).wr W7 (Or.inl (List.mem_of_getElem? (i := 0) rfl))), ⟨cf_8, cf_9, Fw7⟩⟩
theorem d38_0 : decode jdk_45_method_1_code 0 = .ok (.aload_n 0, 1) := by decide +kernel
theorem d38_1 : decode jdk_45_method_1_code 1 = .ok (.invokespecial 1, 3) := by decide +kernel
theorem d38_4 : decode jdk_45_method_1_code 4 = .ok (.aload_n 0, 1) := by decide +kernel
theorem d38_5 : decode jdk_45_method_1_code 5 = .ok (.aload_n 1, 1) := by decide +kernel
theorem d38_6 : decode jdk_45_method_1_code 6 = .ok (.putfield 7, 3) := by decide +kernel
theorem d38_9 : decode jdk_45_method_1_code 9 = .ok (.aload_n 0, 1) := by decide +kernel
theorem d38_10 : decode jdk_45_method_1_code 10 = .ok (.iload_n 2, 1) := by decide +kernel
theorem d38_11 : decode jdk_45_method_1_code 11 = .ok (.putfield 13, 3) := by decide +kernel
theorem d38_14 : decode jdk_45_method_1_code 14 = .ok (.return_, 1) := by decide +kernel
def Q_lnc (Z : State) (a : Addr) (ee : Addr) (v0 : Value) (v1 : Value) (h0 : Heap) (n0 : Nat) (v : Option Value) (h : Heap) (L : List Loc) : Prop := v = none ∧ Fr n0 L ∧ Keep h0 h [a] ∧ Exa Z h a "java/util/ImmutableCollections$ListN" ∧ Fld Z h a "java/util/ImmutableCollections$ListN" "elements" "[Ljava/lang/Object;" (.ref ee)
theorem pn_java_util_ImmutableCollections_ListN : plainName "java/util/ImmutableCollections$ListN" = true := by first | (simp [plainName, overriddenIn]; done) | decide +kernel
theorem ef_lnc (m : MethodId) (a : Addr) (ee : Addr)  : entryFrame m #[(.ref a), (.ref ee), (.int (0 : Int32))] 3 = mkF m 0 #[.val (.ref a), .val (.ref ee), .val (.int (0 : Int32))] [] := by first | (simp [entryFrame, mkF, argsToLocals, Value.category]; done) | rfl
theorem lnc (l : Launch) (Z : State) (a0 : Array Value) (hw : TW a0 Z) (ws : List Cond) (a : Addr) (ee : Addr) (v0 : Value) (v1 : Value) (h0 : Heap) (n0 : Nat) (Z0 : n0 ≤ h0.size) (Ea : Exa Z h0 a "java/util/ImmutableCollections$ListN") (Fa0 : Fld Z h0 a "java/util/ImmutableCollections$ListN" "elements" "[Ljava/lang/Object;" v0) (Fa1 : Fld Z h0 a "java/util/ImmutableCollections$ListN" "allowNulls" "Z" v1) (g : n0 ≤ a) :
    own_MF l Z (⟨"java/util/ImmutableCollections$ListN", "<init>", "([Ljava/lang/Object;Z)V"⟩ : MethodName) jdk_45_method_1_code 3 none ws (own_R 4 0 0 48) #[(.ref a), (.ref ee), (.int (0 : Int32))] h0 (Q_lnc Z a ee v0 v1 h0 n0) := by
  have wd := @own_wd _ _ hw
  refine MetFree.of_bodySF (plainFor_of_name pn_java_util_ImmutableCollections_ListN) hisR ?_
  intro p e s m args below meth c s₁ Bd hml0 hP hK
  obtain ⟨rfl, hZ, hh⟩ := hP
  have hx := Bd.exec
  have hby := Bd.bytes
  have hml : c.maxLocals = 3 := hml0
  have hown : s.vm.findClass "java/util/ImmutableCollections$ListN" = some m.cls := findClass_of_methodNamed Bd.named
  have hnm := (name_of_methodNamed Bd.named Bd.method).1
  have X0 : Stand p l e (own_R 4 0 0 48) s m #[(.ref a), (.ref ee), (.int (0 : Int32))] below meth c s₁ [] 0 0 := Stand.of_body Bd
  have e0 : s₁.heap = h0 := by rw [← hh, Bd.state]; rfl
  have N0 := Fr.nil n0
  have lta := own_nlt (Ea.lt)
  refine go_of (A := s₁.setTop (entryFrame m #[(.ref a), (.ref ee), (.int (0 : Int32))] 3)) (B := s₁.setTop (mkF m 0 #[.val (.ref a), .val (.ref ee), .val (.int (0 : Int32))] [])) (fun _ kk' => castTop (ef_lnc m a ee) kk') ?_
  refine go_of (B := (s₁.setTop (mkF m 1 #[.val (.ref a), .val (.ref ee), .val (.int (0 : Int32))] [(.ref a)]))) (fun _ kk => XS.aloadN X0.here hx rfl (hb hby d38_0) rfl rfl kk) ?_
  obtain ⟨_, _, ⟨T1, L1, k1, n1⟩, -, X1, ⟨Lc1, hQ1, l1, y1, z1⟩, st1⟩ := X0.specialBack hx (y := MN20) rfl hown (mvT hZ (wd 285 rfl)) (mvT hZ (wd 207 rfl)) (mvT hZ (wd 211 rfl)) (by decide) (backOf (W := 0) (rm27 l Z a0 hw [] a h0 n0 (by omega)) hZ (wd 211 rfl) (wd 210 rfl) (by decide) (by decide)) (g := (mkF m 1 #[.val (.ref a), .val (.ref ee), .val (.int (0 : Int32))] [(.ref a)])) rfl (by rw [hml]; rfl) (Steps.refl _) (a := a) (argsL := []) (rest := []) (lenOf pd___V rfl) rfl (Nat.le_of_eq rfl) (hb hby d38_1) (fun _ _ => ⟨rfl, e0, (by decide : 0 + 0 ≤ _), (by decide : 0 + 0 ≤ _)⟩)
  dsimp only [Pt.U, Pt.locs, Pt.cells, Pt.slots] at X1 l1 y1 z1 st1 hQ1
  subst l1 y1 z1
  obtain ⟨rfl, N1q, e1⟩ := hQ1
  have N1 := Fr.app N0 N1q
  refine go_tr (B := (T1.setTop (mkF m 4 #[.val (.ref a), .val (.ref ee), .val (.int (0 : Int32))] []))) (st1) ?_
  refine go_of (B := (T1.setTop (mkF m 6 #[.val (.ref a), .val (.ref ee), .val (.int (0 : Int32))] [(.ref ee), (.ref a)]))) (fun _ kk => XS.aloadN X1.here hx rfl (hb hby d38_4) rfl rfl (XS.aloadN X1.here hx rfl (hb hby d38_5) rfl rfl kk)) ?_
  obtain ⟨T2, h2, X2, e2, W2, st2⟩ := putF X1 hx hZ hown (host := "") (Or.inl (wd 289 rfl)) Via.refl e1 Fa0 Ea (Or.inr ⟨(wd 290 rfl), rfl, hnm⟩) (wd 280 rfl) (ty := (.array (.object "java/lang/Object"))) (by decide) rfl rfl (g := (mkF m 6 #[.val (.ref a), .val (.ref ee), .val (.int (0 : Int32))] [(.ref ee), (.ref a)])) rfl rfl (hb hby d38_6)
  have sz2 := W2.size
  have Fw2 := Fa0.same W2
  have N2 := Fr.snoc X2 N1 (g : n0 ≤ a)
  refine go_of (B := (T2.setTop (mkF m 9 #[.val (.ref a), .val (.ref ee), .val (.int (0 : Int32))] []))) (st2) ?_
  refine go_of (B := (T2.setTop (mkF m 11 #[.val (.ref a), .val (.ref ee), .val (.int (0 : Int32))] [(.int (0 : Int32)), (.ref a)]))) (fun _ kk => XS.aloadN X2.here hx rfl (hb hby d38_9) rfl rfl (XS.iloadN X2.here hx rfl (hb hby d38_10) rfl kk)) ?_
  have cf_3 := (Ea.wr W2)
  have cf_4 := (Fa1.other W2 (Or.inr (slot_ne (Or.inr (wd 79 rfl)) (Or.inr (wd 290 rfl)) (by decide) (t := .boolean) (t' := (.array (.object "java/lang/Object"))) (by decide) (by decide))))
  obtain ⟨T5, h5, X5, e5, W5, st5⟩ := putFN X2 hx hZ hown (wd 291 rfl) Via.refl e2 cf_4 cf_3 (Or.inr ⟨(wd 79 rfl), rfl, hnm⟩) (wd 280 rfl) (ty := .boolean) (v' := (.int (nar .boolean (0 : Int32)))) (by decide) rfl (fits_nar_bool _) (g := (mkF m 11 #[.val (.ref a), .val (.ref ee), .val (.int (0 : Int32))] [(.int (0 : Int32)), (.ref a)])) rfl rfl (hb hby d38_11)
  have sz5 := W5.size
  have Fw5 := cf_4.same W5
  have N5 := Fr.snoc X5 N2 (g : n0 ≤ a)
  refine go_of (B := (T5.setTop (mkF m 14 #[.val (.ref a), .val (.ref ee), .val (.int (0 : Int32))] []))) (st5) ?_
  have cf_6 := (cf_3.wr W5)
  have cf_7 := (Fw2.other W5 (Or.inr (slot_ne (Or.inr (wd 290 rfl)) (Or.inr (wd 79 rfl)) (by decide) (t := (.array (.object "java/lang/Object"))) (t' := .boolean) (by decide) (by decide))))
  refine go_end X5 (v := none) (fun _ => rfl) Bd.notSynchronized (by decide) (by decide) (Q := (Q_lnc Z a ee v0 v1 h0 n0)) ?_ (fun fs hr => X5.returnOut hx Bd.returns (hb hby d38_14) hr)
  unfold Q_lnc
  try rw [e5]
  exact ⟨rfl, N5, (((Keep.refl h0 [a]).wr W2 (Or.inl (List.mem_of_getElem? (i := 0) rfl))).wr W5 (Or.inl (List.mem_of_getElem? (i := 0) rfl))), cf_6, cf_7⟩
theorem d37_0 : decode jdk_56_method_4_code 0 = .ok (.aload_n 0, 1) := by decide +kernel
theorem d37_1 : decode jdk_56_method_4_code 1 = .ok (.arraylength, 1) := by decide +kernel
theorem d37_2 : decode jdk_56_method_4_code 2 = .ok (.anewarray 2, 3) := by decide +kernel
theorem d37_5 : decode jdk_56_method_4_code 5 = .ok (.astore_n 1, 1) := by decide +kernel
theorem d37_6 : decode jdk_56_method_4_code 6 = .ok (.iconst 0, 1) := by decide +kernel
theorem d37_7 : decode jdk_56_method_4_code 7 = .ok (.istore_n 2, 1) := by decide +kernel
theorem d37_8 : decode jdk_56_method_4_code 8 = .ok (.iload_n 2, 1) := by decide +kernel
theorem d37_9 : decode jdk_56_method_4_code 9 = .ok (.aload_n 0, 1) := by decide +kernel
theorem d37_10 : decode jdk_56_method_4_code 10 = .ok (.arraylength, 1) := by decide +kernel
theorem d37_11 : decode jdk_56_method_4_code 11 = .ok (.if_icmp .ge 18, 3) := by decide +kernel
theorem d37_14 : decode jdk_56_method_4_code 14 = .ok (.aload_n 1, 1) := by decide +kernel
theorem d37_15 : decode jdk_56_method_4_code 15 = .ok (.iload_n 2, 1) := by decide +kernel
theorem d37_16 : decode jdk_56_method_4_code 16 = .ok (.aload_n 0, 1) := by decide +kernel
theorem d37_17 : decode jdk_56_method_4_code 17 = .ok (.iload_n 2, 1) := by decide +kernel
theorem d37_18 : decode jdk_56_method_4_code 18 = .ok (.aaload, 1) := by decide +kernel
theorem d37_19 : decode jdk_56_method_4_code 19 = .ok (.invokestatic 37, 3) := by decide +kernel
theorem d37_22 : decode jdk_56_method_4_code 22 = .ok (.aastore, 1) := by decide +kernel
theorem d37_23 : decode jdk_56_method_4_code 23 = .ok (.iinc 2 1, 3) := by decide +kernel
theorem d37_26 : decode jdk_56_method_4_code 26 = .ok (.goto (-18), 3) := by decide +kernel
theorem d37_29 : decode jdk_56_method_4_code 29 = .ok (.new 12, 3) := by decide +kernel
theorem d37_32 : decode jdk_56_method_4_code 32 = .ok (.dup, 1) := by decide +kernel
theorem d37_33 : decode jdk_56_method_4_code 33 = .ok (.aload_n 1, 1) := by decide +kernel
theorem d37_34 : decode jdk_56_method_4_code 34 = .ok (.iconst 0, 1) := by decide +kernel
theorem d37_35 : decode jdk_56_method_4_code 35 = .ok (.invokespecial 43, 3) := by decide +kernel
theorem pd___Ljava_lang_Object_Z_V : parseMethodDescriptor "([Ljava/lang/Object;Z)V" = some ⟨[(.array (.object "java/lang/Object")), .boolean], none⟩ := by decide +kernel
theorem d37_38 : decode jdk_56_method_4_code 38 = .ok (.areturn, 1) := by decide +kernel
def Q_lfa (Z : State) (d : Addr) (kD : ClassId) (x0 : Addr) (x1 : Addr) (x2 : Addr) (h0 : Heap) (n0 : Nat) (v : Option Value) (h : Heap) (L : List Loc) : Prop := ∃ (t : Addr) (dd : Addr) (kk : ClassId), v = some (.ref t) ∧ Fr n0 L ∧ h0.size ≤ t ∧ Keep h0 h [] ∧ L3 Z h t dd kk x0 x1 x2 ∧ h0.size ≤ dd
theorem ef_lfa (m : MethodId) (d : Addr)  : entryFrame m #[(.ref d)] 3 = mkF m 0 #[.val (.ref d), .unset, .unset] [] := by first | (simp [entryFrame, mkF, argsToLocals, Value.category]; done) | rfl
theorem lfa (l : Launch) (Z : State) (a0 : Array Value) (hw : TW a0 Z) (ws : List Cond) (d : Addr) (kD : ClassId) (x0 : Addr) (x1 : Addr) (x2 : Addr) (h0 : Heap) (n0 : Nat) (Z0 : n0 ≤ h0.size) (VD : Arv Z h0 d kD (.object "java/lang/Object") 3 [.ref x0, .ref x1, .ref x2] .null) (Ix0 : Ins Z h0 x0 "java/lang/Object" true) (Ix1 : Ins Z h0 x1 "java/lang/Object" true) (Ix2 : Ins Z h0 x2 "java/lang/Object" true) :
    own_MF l Z (⟨"java/util/ImmutableCollections", "listFromArray", "([Ljava/lang/Object;)Ljava/util/List;"⟩ : MethodName) jdk_56_method_4_code 3 (some (.object "java/util/List")) ws (own_R 5 2 5 63) #[(.ref d)] h0 (Q_lfa Z d kD x0 x1 x2 h0 n0) := by
  have wd := @own_wd _ _ hw
  refine MetFree.of_bodySF (plainFor_of_name pn_java_util_ImmutableCollections) hisR ?_
  intro p e s m args below meth c s₁ Bd hml0 hP hK
  obtain ⟨rfl, hZ, hh⟩ := hP
  have hx := Bd.exec
  have hby := Bd.bytes
  have hml : c.maxLocals = 3 := hml0
  have hown : s.vm.findClass "java/util/ImmutableCollections" = some m.cls := findClass_of_methodNamed Bd.named
  have hnm := (name_of_methodNamed Bd.named Bd.method).1
  have X0 : Stand p l e (own_R 5 2 5 63) s m #[(.ref d)] below meth c s₁ [] 0 0 := Stand.of_body Bd
  have e0 : s₁.heap = h0 := by rw [← hh, Bd.state]; rfl
  have N0 := Fr.nil n0
  have ltd := own_nlt (VD.lt)
  have ltx0 := own_nlt (own_inslt Ix0)
  have ltx1 := own_nlt (own_inslt Ix1)
  have ltx2 := own_nlt (own_inslt Ix2)
  refine go_of (A := s₁.setTop (entryFrame m #[(.ref d)] 3)) (B := s₁.setTop (mkF m 0 #[.val (.ref d), .unset, .unset] [])) (fun _ kk' => castTop (ef_lfa m d) kk') ?_
  refine go_of (B := (s₁.setTop (mkF m 1 #[.val (.ref d), .unset, .unset] [(.ref d)]))) (fun _ kk => XS.aloadN X0.here hx rfl (hb hby d37_0) rfl rfl kk) ?_
  obtain ⟨cl1, Ar1, q1, Sz1, Nn1, Hh1, G1⟩ := id (VD)
  have ln1 := len_of Sz1 Nn1
  refine go_of (B := (s₁.setTop (mkF m 2 #[.val (.ref d), .unset, .unset] [(.int (3 : Int32))]))) (fun _ kk => X0.arraylength hx (by rw [e0]; exact Ar1.1) (State.isArrayOf_alike hZ.alike Ar1.2.1) (g := (mkF m 1 #[.val (.ref d), .unset, .unset] [(.ref d)])) rfl rfl (hb hby d37_1) _ (by rw [ln1]; exact kk)) ?_
  obtain ⟨T2, h2, k2, X2, e2, E2, A2, O2, st2⟩ := newR X0 hx hZ hown (wd 278 rfl) (wd 145 rfl) e0 (g := (mkF m 2 #[.val (.ref d), .unset, .unset] [(.int (3 : Int32))])) rfl (hb hby d37_2) rfl (by decide) (cap := 3) (by decide) (by decide) (by decide) (by decide)
  obtain ⟨b2, g2⟩ : ∃ z, z = h0.size := ⟨_, rfl⟩
  rw [← g2] at A2 st2
  have hi2 := own_nlt A2.lt
  have sz2 := E2.1
  have V2 : Arv Z h2 b2 k2 (.object "java/lang/Object") (3 : Int32) [.null, .null, .null] .null := (Arv.new A2 (by decide)).pad (pad_rep [] .null 3)
  refine go_of (B := (T2.setTop (mkF m 5 #[.val (.ref d), .unset, .unset] [(.ref b2)]))) (st2) ?_
  refine go_of (B := (T2.setTop (mkF m 10 #[.val (.ref d), .val (.ref b2), .val (.int (0 : Int32))] [(.ref d), (.int (0 : Int32))]))) (fun _ kk => XS.astoreN X2.here hx rfl (hb hby d37_5) rfl rfl rfl (XS.iconst X2.here hx rfl (hb hby d37_6) (XS.istoreN X2.here hx rfl (hb hby d37_7) rfl rfl (XS.iloadN X2.here hx rfl (hb hby d37_8) rfl (XS.aloadN X2.here hx rfl (hb hby d37_9) rfl rfl kk))))) ?_
  have cf_3 := (VD.ext E2)
  obtain ⟨cl4, Ar4, q4, Sz4, Nn4, Hh4, G4⟩ := id (cf_3)
  have ln4 := len_of Sz4 Nn4
  refine go_of (B := (T2.setTop (mkF m 11 #[.val (.ref d), .val (.ref b2), .val (.int (0 : Int32))] [(.int (3 : Int32)), (.int (0 : Int32))]))) (fun _ kk => X2.arraylength hx (by rw [e2]; exact Ar4.1) (State.isArrayOf_alike hZ.alike Ar4.2.1) (g := (mkF m 10 #[.val (.ref d), .val (.ref b2), .val (.int (0 : Int32))] [(.ref d), (.int (0 : Int32))])) rfl rfl (hb hby d37_10) _ (by rw [ln4]; exact kk)) ?_
  refine go_of (B := (T2.setTop (mkF m 18 #[.val (.ref d), .val (.ref b2), .val (.int (0 : Int32))] [(.int (0 : Int32)), (.ref d), (.int (0 : Int32)), (.ref b2)]))) (fun _ kk => XS.icmpNo X2.here hx rfl (hb hby d37_11) rfl (tlt (by decide : (0 : Int32) < (3 : Int32))).2.1 (XS.aloadN X2.here hx rfl (hb hby d37_14) rfl rfl (XS.iloadN X2.here hx rfl (hb hby d37_15) rfl (XS.aloadN X2.here hx rfl (hb hby d37_16) rfl rfl (XS.iloadN X2.here hx rfl (hb hby d37_17) rfl kk))))) ?_
  obtain ⟨cl5, Ar5, q5, Sz5, Nn5, Hh5, G5⟩ := id (cf_3)
  refine go_of (B := (T2.setTop (mkF m 19 #[.val (.ref d), .val (.ref b2), .val (.int (0 : Int32))] [(.ref x0), (.int (0 : Int32)), (.ref b2)]))) (fun _ kk => X2.aaload hx (j := (0 : Int32)) (v := (.ref x0)) (by rw [e2]; exact Ar5.1) (State.isArrayOf_alike hZ.alike Ar5.2.1) rfl Ar5.2.2 (inb_of Sz5 ⟨by decide, by decide⟩) (Hh5.at (inb_of Sz5 ⟨by decide, by decide⟩) rfl) (g := (mkF m 18 #[.val (.ref d), .val (.ref b2), .val (.int (0 : Int32))] [(.int (0 : Int32)), (.ref d), (.int (0 : Int32)), (.ref b2)])) rfl rfl (hb hby d37_18) _ kk) ?_
  obtain ⟨_, _, ⟨T6, L6, k6, n6⟩, -, X6, ⟨Lc6, hQ6, l6, y6, z6⟩, st6⟩ := Jvm.LawKit.callS X2 hx (y := MN32) hown (mvT hZ (wd 279 rfl)) (mvT hZ (wd 221 rfl)) (mvT hZ (wd 62 rfl)) (mvT hZ (wd 222 rfl)) (by decide) (backOf (W := 2) (rnn1 l Z a0 hw [] x0 h2 n0 (by omega)) hZ (wd 222 rfl) (wd 62 rfl) (by decide) (by decide)) (g := (mkF m 19 #[.val (.ref d), .val (.ref b2), .val (.int (0 : Int32))] [(.ref x0), (.int (0 : Int32)), (.ref b2)])) rfl (by rw [hml]; rfl) (argsL := [(.ref x0)]) (rest := [(.int (0 : Int32)), (.ref b2)]) (lenOf pd__Ljava_lang_Object__Ljava_lang_Object_ rfl) rfl (Nat.le_of_eq rfl) (hb hby d37_19) (fun _ _ => ⟨rfl, e2, (by decide : 1 + 0 ≤ _), (by decide : 3 + 0 ≤ _)⟩)
  dsimp only [Pt.U, Pt.locs, Pt.cells, Pt.slots] at X6 l6 y6 z6 st6 hQ6
  subst l6 y6 z6
  obtain ⟨rfl, N6q, e6⟩ := hQ6
  have N6 := Fr.app N0 N6q
  refine go_of (B := (T6.setTop (mkF m 22 #[.val (.ref d), .val (.ref b2), .val (.int (0 : Int32))] [(.ref x0), (.int (0 : Int32)), (.ref b2)]))) (st6) ?_
  obtain ⟨cl7, Ar7, q7, Sz7, Nn7, Hh7, G7⟩ := id (V2)
  have cf_9 := (Ix0.ext E2)
  obtain ⟨T8, h8, X8, e8, W8, st8⟩ := stR X6 hx hZ e6 Ar7 (j := (0 : Int32)) (inb_of Sz7 ⟨by decide, by decide⟩) rfl (Sto.of Ar7 (by rw [q7]; exact O2) cf_9) (g := (mkF m 22 #[.val (.ref d), .val (.ref b2), .val (.int (0 : Int32))] [(.ref x0), (.int (0 : Int32)), (.ref b2)])) rfl rfl (hb hby d37_22)
  have sz8 := W8.size
  have N8 := Fr.snoc X8 N6 ((by first | omega | exact own_ne (by omega) | exact own_le (by omega)) : n0 ≤ b2)
  have V8 : Arv Z h8 b2 k2 (.object "java/lang/Object") (3 : Int32) [(.ref x0), .null, .null] .null := Arv.set Ar7 q7 Sz7 Nn7 Hh7 G7 rfl W8 0 rfl (Nat.le_of_ble_eq_true rfl)
  refine go_of (B := (T8.setTop (mkF m 23 #[.val (.ref d), .val (.ref b2), .val (.int (0 : Int32))] []))) (st8) ?_
  refine go_of (B := (T8.setTop (mkF m 10 #[.val (.ref d), .val (.ref b2), .val (.int (1 : Int32))] [(.ref d), (.int (1 : Int32))]))) (fun _ kk => XS.iinc X8.here hx rfl (hb hby d37_23) rfl rfl (XS.goto X8.here hx rfl (pc0 := 26) (pc' := 8) rfl (hb hby d37_26) (by decide) (by decide) (XS.iloadN X8.here hx rfl (hb hby d37_8) rfl (XS.aloadN X8.here hx rfl (hb hby d37_9) rfl rfl kk)))) ?_
  have cf_10 := (cf_3.other W8 (by first | omega | exact own_ne (by omega) | exact own_le (by omega)))
  obtain ⟨cl11, Ar11, q11, Sz11, Nn11, Hh11, G11⟩ := id (cf_10)
  have ln11 := len_of Sz11 Nn11
  refine go_of (B := (T8.setTop (mkF m 11 #[.val (.ref d), .val (.ref b2), .val (.int (1 : Int32))] [(.int (3 : Int32)), (.int (1 : Int32))]))) (fun _ kk => X8.arraylength hx (by rw [e8]; exact Ar11.1) (State.isArrayOf_alike hZ.alike Ar11.2.1) (g := (mkF m 10 #[.val (.ref d), .val (.ref b2), .val (.int (1 : Int32))] [(.ref d), (.int (1 : Int32))])) rfl rfl (hb hby d37_10) _ (by rw [ln11]; exact kk)) ?_
  refine go_of (B := (T8.setTop (mkF m 18 #[.val (.ref d), .val (.ref b2), .val (.int (1 : Int32))] [(.int (1 : Int32)), (.ref d), (.int (1 : Int32)), (.ref b2)]))) (fun _ kk => XS.icmpNo X8.here hx rfl (hb hby d37_11) rfl (tlt (by decide : (1 : Int32) < (3 : Int32))).2.1 (XS.aloadN X8.here hx rfl (hb hby d37_14) rfl rfl (XS.iloadN X8.here hx rfl (hb hby d37_15) rfl (XS.aloadN X8.here hx rfl (hb hby d37_16) rfl rfl (XS.iloadN X8.here hx rfl (hb hby d37_17) rfl kk))))) ?_
  obtain ⟨cl12, Ar12, q12, Sz12, Nn12, Hh12, G12⟩ := id (cf_10)
  refine go_of (B := (T8.setTop (mkF m 19 #[.val (.ref d), .val (.ref b2), .val (.int (1 : Int32))] [(.ref x1), (.int (1 : Int32)), (.ref b2)]))) (fun _ kk => X8.aaload hx (j := (1 : Int32)) (v := (.ref x1)) (by rw [e8]; exact Ar12.1) (State.isArrayOf_alike hZ.alike Ar12.2.1) rfl Ar12.2.2 (inb_of Sz12 ⟨by decide, by decide⟩) (Hh12.at (inb_of Sz12 ⟨by decide, by decide⟩) rfl) (g := (mkF m 18 #[.val (.ref d), .val (.ref b2), .val (.int (1 : Int32))] [(.int (1 : Int32)), (.ref d), (.int (1 : Int32)), (.ref b2)])) rfl rfl (hb hby d37_18) _ kk) ?_
  obtain ⟨_, _, ⟨T13, L13, k13, n13⟩, -, X13, ⟨Lc13, hQ13, l13, y13, z13⟩, st13⟩ := Jvm.LawKit.callS X8 hx (y := MN32) hown (mvT hZ (wd 279 rfl)) (mvT hZ (wd 221 rfl)) (mvT hZ (wd 62 rfl)) (mvT hZ (wd 222 rfl)) (by decide) (backOf (W := 2) (rnn1 l Z a0 hw [] x1 h8 n0 (by omega)) hZ (wd 222 rfl) (wd 62 rfl) (by decide) (by decide)) (g := (mkF m 19 #[.val (.ref d), .val (.ref b2), .val (.int (1 : Int32))] [(.ref x1), (.int (1 : Int32)), (.ref b2)])) rfl (by rw [hml]; rfl) (argsL := [(.ref x1)]) (rest := [(.int (1 : Int32)), (.ref b2)]) (lenOf pd__Ljava_lang_Object__Ljava_lang_Object_ rfl) rfl (Nat.le_of_eq rfl) (hb hby d37_19) (fun _ _ => ⟨rfl, e8, (by decide : 1 + 0 ≤ _), (by decide : 3 + 0 ≤ _)⟩)
  dsimp only [Pt.U, Pt.locs, Pt.cells, Pt.slots] at X13 l13 y13 z13 st13 hQ13
  subst l13 y13 z13
  obtain ⟨rfl, N13q, e13⟩ := hQ13
  have N13 := Fr.app N8 N13q
  refine go_of (B := (T13.setTop (mkF m 22 #[.val (.ref d), .val (.ref b2), .val (.int (1 : Int32))] [(.ref x1), (.int (1 : Int32)), (.ref b2)]))) (st13) ?_
  obtain ⟨cl14, Ar14, q14, Sz14, Nn14, Hh14, G14⟩ := id (V8)
  have cf_16 := ((Ix1.ext E2).wr W8)
  obtain ⟨T15, h15, X15, e15, W15, st15⟩ := stR X13 hx hZ e13 Ar14 (j := (1 : Int32)) (inb_of Sz14 ⟨by decide, by decide⟩) rfl (Sto.of Ar14 (by rw [q14]; exact O2) cf_16) (g := (mkF m 22 #[.val (.ref d), .val (.ref b2), .val (.int (1 : Int32))] [(.ref x1), (.int (1 : Int32)), (.ref b2)])) rfl rfl (hb hby d37_22)
  have sz15 := W15.size
  have N15 := Fr.snoc X15 N13 ((by first | omega | exact own_ne (by omega) | exact own_le (by omega)) : n0 ≤ b2)
  have V15 : Arv Z h15 b2 k2 (.object "java/lang/Object") (3 : Int32) [(.ref x0), (.ref x1), .null] .null := Arv.set Ar14 q14 Sz14 Nn14 Hh14 G14 rfl W15 1 rfl (Nat.le_of_ble_eq_true rfl)
  refine go_of (B := (T15.setTop (mkF m 23 #[.val (.ref d), .val (.ref b2), .val (.int (1 : Int32))] []))) (st15) ?_
  refine go_of (B := (T15.setTop (mkF m 10 #[.val (.ref d), .val (.ref b2), .val (.int (2 : Int32))] [(.ref d), (.int (2 : Int32))]))) (fun _ kk => XS.iinc X15.here hx rfl (hb hby d37_23) rfl rfl (XS.goto X15.here hx rfl (pc0 := 26) (pc' := 8) rfl (hb hby d37_26) (by decide) (by decide) (XS.iloadN X15.here hx rfl (hb hby d37_8) rfl (XS.aloadN X15.here hx rfl (hb hby d37_9) rfl rfl kk)))) ?_
  have cf_17 := (cf_10.other W15 (by first | omega | exact own_ne (by omega) | exact own_le (by omega)))
  obtain ⟨cl18, Ar18, q18, Sz18, Nn18, Hh18, G18⟩ := id (cf_17)
  have ln18 := len_of Sz18 Nn18
  refine go_of (B := (T15.setTop (mkF m 11 #[.val (.ref d), .val (.ref b2), .val (.int (2 : Int32))] [(.int (3 : Int32)), (.int (2 : Int32))]))) (fun _ kk => X15.arraylength hx (by rw [e15]; exact Ar18.1) (State.isArrayOf_alike hZ.alike Ar18.2.1) (g := (mkF m 10 #[.val (.ref d), .val (.ref b2), .val (.int (2 : Int32))] [(.ref d), (.int (2 : Int32))])) rfl rfl (hb hby d37_10) _ (by rw [ln18]; exact kk)) ?_
  refine go_of (B := (T15.setTop (mkF m 18 #[.val (.ref d), .val (.ref b2), .val (.int (2 : Int32))] [(.int (2 : Int32)), (.ref d), (.int (2 : Int32)), (.ref b2)]))) (fun _ kk => XS.icmpNo X15.here hx rfl (hb hby d37_11) rfl (tlt (by decide : (2 : Int32) < (3 : Int32))).2.1 (XS.aloadN X15.here hx rfl (hb hby d37_14) rfl rfl (XS.iloadN X15.here hx rfl (hb hby d37_15) rfl (XS.aloadN X15.here hx rfl (hb hby d37_16) rfl rfl (XS.iloadN X15.here hx rfl (hb hby d37_17) rfl kk))))) ?_
  obtain ⟨cl19, Ar19, q19, Sz19, Nn19, Hh19, G19⟩ := id (cf_17)
  refine go_of (B := (T15.setTop (mkF m 19 #[.val (.ref d), .val (.ref b2), .val (.int (2 : Int32))] [(.ref x2), (.int (2 : Int32)), (.ref b2)]))) (fun _ kk => X15.aaload hx (j := (2 : Int32)) (v := (.ref x2)) (by rw [e15]; exact Ar19.1) (State.isArrayOf_alike hZ.alike Ar19.2.1) rfl Ar19.2.2 (inb_of Sz19 ⟨by decide, by decide⟩) (Hh19.at (inb_of Sz19 ⟨by decide, by decide⟩) rfl) (g := (mkF m 18 #[.val (.ref d), .val (.ref b2), .val (.int (2 : Int32))] [(.int (2 : Int32)), (.ref d), (.int (2 : Int32)), (.ref b2)])) rfl rfl (hb hby d37_18) _ kk) ?_
  obtain ⟨_, _, ⟨T20, L20, k20, n20⟩, -, X20, ⟨Lc20, hQ20, l20, y20, z20⟩, st20⟩ := Jvm.LawKit.callS X15 hx (y := MN32) hown (mvT hZ (wd 279 rfl)) (mvT hZ (wd 221 rfl)) (mvT hZ (wd 62 rfl)) (mvT hZ (wd 222 rfl)) (by decide) (backOf (W := 2) (rnn1 l Z a0 hw [] x2 h15 n0 (by omega)) hZ (wd 222 rfl) (wd 62 rfl) (by decide) (by decide)) (g := (mkF m 19 #[.val (.ref d), .val (.ref b2), .val (.int (2 : Int32))] [(.ref x2), (.int (2 : Int32)), (.ref b2)])) rfl (by rw [hml]; rfl) (argsL := [(.ref x2)]) (rest := [(.int (2 : Int32)), (.ref b2)]) (lenOf pd__Ljava_lang_Object__Ljava_lang_Object_ rfl) rfl (Nat.le_of_eq rfl) (hb hby d37_19) (fun _ _ => ⟨rfl, e15, (by decide : 1 + 0 ≤ _), (by decide : 3 + 0 ≤ _)⟩)
  dsimp only [Pt.U, Pt.locs, Pt.cells, Pt.slots] at X20 l20 y20 z20 st20 hQ20
  subst l20 y20 z20
  obtain ⟨rfl, N20q, e20⟩ := hQ20
  have N20 := Fr.app N15 N20q
  refine go_of (B := (T20.setTop (mkF m 22 #[.val (.ref d), .val (.ref b2), .val (.int (2 : Int32))] [(.ref x2), (.int (2 : Int32)), (.ref b2)]))) (st20) ?_
  obtain ⟨cl21, Ar21, q21, Sz21, Nn21, Hh21, G21⟩ := id (V15)
  have cf_23 := (((Ix2.ext E2).wr W8).wr W15)
  obtain ⟨T22, h22, X22, e22, W22, st22⟩ := stR X20 hx hZ e20 Ar21 (j := (2 : Int32)) (inb_of Sz21 ⟨by decide, by decide⟩) rfl (Sto.of Ar21 (by rw [q21]; exact O2) cf_23) (g := (mkF m 22 #[.val (.ref d), .val (.ref b2), .val (.int (2 : Int32))] [(.ref x2), (.int (2 : Int32)), (.ref b2)])) rfl rfl (hb hby d37_22)
  have sz22 := W22.size
  have N22 := Fr.snoc X22 N20 ((by first | omega | exact own_ne (by omega) | exact own_le (by omega)) : n0 ≤ b2)
  have V22 : Arv Z h22 b2 k2 (.object "java/lang/Object") (3 : Int32) [(.ref x0), (.ref x1), (.ref x2)] .null := Arv.set Ar21 q21 Sz21 Nn21 Hh21 G21 rfl W22 2 rfl (Nat.le_of_ble_eq_true rfl)
  refine go_of (B := (T22.setTop (mkF m 23 #[.val (.ref d), .val (.ref b2), .val (.int (2 : Int32))] []))) (st22) ?_
  refine go_of (B := (T22.setTop (mkF m 10 #[.val (.ref d), .val (.ref b2), .val (.int (3 : Int32))] [(.ref d), (.int (3 : Int32))]))) (fun _ kk => XS.iinc X22.here hx rfl (hb hby d37_23) rfl rfl (XS.goto X22.here hx rfl (pc0 := 26) (pc' := 8) rfl (hb hby d37_26) (by decide) (by decide) (XS.iloadN X22.here hx rfl (hb hby d37_8) rfl (XS.aloadN X22.here hx rfl (hb hby d37_9) rfl rfl kk)))) ?_
  have cf_24 := (cf_17.other W22 (by first | omega | exact own_ne (by omega) | exact own_le (by omega)))
  obtain ⟨cl25, Ar25, q25, Sz25, Nn25, Hh25, G25⟩ := id (cf_24)
  have ln25 := len_of Sz25 Nn25
  refine go_of (B := (T22.setTop (mkF m 11 #[.val (.ref d), .val (.ref b2), .val (.int (3 : Int32))] [(.int (3 : Int32)), (.int (3 : Int32))]))) (fun _ kk => X22.arraylength hx (by rw [e22]; exact Ar25.1) (State.isArrayOf_alike hZ.alike Ar25.2.1) (g := (mkF m 10 #[.val (.ref d), .val (.ref b2), .val (.int (3 : Int32))] [(.ref d), (.int (3 : Int32))])) rfl rfl (hb hby d37_10) _ (by rw [ln25]; exact kk)) ?_
  refine go_of (B := (T22.setTop (mkF m 29 #[.val (.ref d), .val (.ref b2), .val (.int (3 : Int32))] []))) (fun _ kk => XS.icmpYes X22.here hx rfl (pc0 := 11) (pc' := 29) rfl (hb hby d37_11) rfl (flt (by decide : ¬ ((3 : Int32) < (3 : Int32)))).2.1 (by decide) (by decide) kk) ?_
  obtain ⟨T26, h26, X26, e26, E26, A26, D26, -, st26⟩ := newO X22 hx hZ hown (wd 76 rfl) (wd 280 rfl) (wd 281 rfl) e22 (g := (mkF m 29 #[.val (.ref d), .val (.ref b2), .val (.int (3 : Int32))] [])) rfl (hb hby d37_29) (by decide) (by decide)
  obtain ⟨b26, g26⟩ : ∃ z, z = h22.size := ⟨_, rfl⟩
  rw [← g26] at A26 D26 st26
  have hi26 := own_nlt A26.lt
  have sz26 := E26.1
  have F26_allowNulls : Fld Z h26 b26 "java/util/ImmutableCollections$ListN" "allowNulls" "Z" (.int (0 : Int32)) := D26 (Or.inr (wd 79 rfl)) (ty := .boolean) (by decide)
  have F26_elements : Fld Z h26 b26 "java/util/ImmutableCollections$ListN" "elements" "[Ljava/lang/Object;" .null := D26 (Or.inr (wd 290 rfl)) (ty := (.array (.object "java/lang/Object"))) (by decide)
  refine go_of (B := (T26.setTop (mkF m 32 #[.val (.ref d), .val (.ref b2), .val (.int (3 : Int32))] [(.ref b26)]))) (st26) ?_
  refine go_of (B := (T26.setTop (mkF m 35 #[.val (.ref d), .val (.ref b2), .val (.int (3 : Int32))] [(.int (0 : Int32)), (.ref b2), (.ref b26), (.ref b26)]))) (fun _ kk => XS.dup X26.here hx rfl (hb hby d37_32) rfl rfl (XS.aloadN X26.here hx rfl (hb hby d37_33) rfl rfl (XS.iconst X26.here hx rfl (hb hby d37_34) kk))) ?_
  obtain ⟨_, _, ⟨T27, L27, k27, n27⟩, -, X27, ⟨Lc27, hQ27, l27, y27, z27⟩, st27⟩ := X26.specialBackNest hx (y := (⟨"java/util/ImmutableCollections$ListN", "<init>", "([Ljava/lang/Object;Z)V"⟩ : MethodName)) rfl hown (own_mvM hZ (wd 282 rfl)) (mvT hZ (wd 283 rfl)) (mvT hZ (wd 284 rfl)) (by decide) (backOf (W := 1) (lnc l Z a0 hw [] b26 b2 _ _ h26 n0 (by omega) A26 F26_elements F26_allowNulls (by first | omega | exact own_ne (by omega) | exact own_le (by omega))) hZ (wd 284 rfl) (wd 281 rfl) (by decide) (by decide)) (g := (mkF m 35 #[.val (.ref d), .val (.ref b2), .val (.int (3 : Int32))] [(.int (0 : Int32)), (.ref b2), (.ref b26), (.ref b26)])) rfl (by rw [hml]; rfl) (Steps.refl _) (a := b26) (argsL := [(.ref b2), (.int (0 : Int32))]) (rest := [(.ref b26)]) (lenOf pd___Ljava_lang_Object_Z_V rfl) rfl (Nat.le_of_eq rfl) (hb hby d37_35) (fun _ _ => ⟨rfl, e26, (by decide : 2 + 0 ≤ _), (by decide : 5 + 0 ≤ _)⟩)
  dsimp only [Pt.U, Pt.locs, Pt.cells, Pt.slots] at X27 l27 y27 z27 st27 hQ27
  subst l27 y27 z27
  obtain ⟨rfl, N27q, K27, A27⟩ := hQ27
  have N27 := Fr.app N22 N27q
  have sz27 := K27.1
  refine go_tr (B := (T27.setTop (mkF m 38 #[.val (.ref d), .val (.ref b2), .val (.int (3 : Int32))] [(.ref b26)]))) (st27) ?_
  have cf_28 := ((V22.ext E26).keep K27 (ninS (by first | omega | exact own_ne (by omega) | exact own_le (by omega)) nin0))
  refine go_end X27 (v := some (.ref b26)) (fun h => by rw [Bd.returns] at h; cases h) Bd.notSynchronized (by decide) (by decide) (Q := (Q_lfa Z d kD x0 x1 x2 h0 n0)) ?_ (fun fs hr => own_retA X27 hx Bd.returns rfl rfl (hb hby d37_38) hr)
  unfold Q_lfa
  exact ⟨b26, b2, k2, rfl, N27, by omega, (((((((Keep.refl h0 []).ext E2).wr W8 (Or.inr (by first | omega | exact own_ne (by omega) | exact own_le (by omega)))).wr W15 (Or.inr (by first | omega | exact own_ne (by omega) | exact own_le (by omega)))).wr W22 (Or.inr (by first | omega | exact own_ne (by omega) | exact own_le (by omega)))).ext E26).trans K27 (allS (Or.inr (by first | omega | exact own_ne (by omega) | exact own_le (by omega))) all0)), ⟨A27.1, A27.2, cf_28⟩, by omega⟩
theorem d33_0 : decode prog_27_method_9_code 0 = .ok (.aload_n 0, 1) := by decide +kernel
theorem d33_1 : decode prog_27_method_9_code 1 = .ok (.getfield 29, 3) := by decide +kernel
theorem d33_4 : decode prog_27_method_9_code 4 = .ok (.areturn, 1) := by decide +kernel
def Q_dsr (Z : State) (a : Addr) (rl : Addr) (h0 : Heap) (n0 : Nat) (v : Option Value) (h : Heap) (L : List Loc) : Prop := v = some (.ref rl) ∧ Fr n0 L ∧ h = h0
theorem ef_dsr (m : MethodId) (a : Addr)  : entryFrame m #[(.ref a)] 1 = mkF m 0 #[.val (.ref a)] [] := by first | (simp [entryFrame, mkF, argsToLocals, Value.category]; done) | rfl
theorem dsr (l : Launch) (Z : State) (a0 : Array Value) (hw : TW a0 Z) (ws : List Cond) (a : Addr) (rl : Addr) (h0 : Heap) (n0 : Nat) (Z0 : n0 ≤ h0.size) (Fr_ : Fld Z h0 a "com/example/wombat/wombat/rules/Descriptor" "rateLimit" "Lcom/example/wombat/wombat/rules/RateLimit;" (.ref rl)) :
    own_MF l Z MN2 prog_27_method_9_code 1 (some (.object "com/example/wombat/wombat/rules/RateLimit")) ws (own_R 0 0 0 0) #[(.ref a)] h0 (Q_dsr Z a rl h0 n0) := by
  have wd := @own_wd _ _ hw
  refine MetFree.of_bodySF (plainFor_of_name pn_com_example_wombat_wombat_rules_Descriptor) hisR ?_
  intro p e s m args below meth c s₁ Bd hml0 hP hK
  obtain ⟨rfl, hZ, hh⟩ := hP
  have hx := Bd.exec
  have hby := Bd.bytes
  have hml : c.maxLocals = 1 := hml0
  have hown : s.vm.findClass "com/example/wombat/wombat/rules/Descriptor" = some m.cls := findClass_of_methodNamed Bd.named
  have hnm := (name_of_methodNamed Bd.named Bd.method).1
  have X0 : Stand p l e (own_R 0 0 0 0) s m #[(.ref a)] below meth c s₁ [] 0 0 := Stand.of_body Bd
  have e0 : s₁.heap = h0 := by rw [← hh, Bd.state]; rfl
  have N0 := Fr.nil n0
  refine go_of (A := s₁.setTop (entryFrame m #[(.ref a)] 1)) (B := s₁.setTop (mkF m 0 #[.val (.ref a)] [])) (fun _ kk' => castTop (ef_dsr m a) kk') ?_
  refine go_of (B := (s₁.setTop (mkF m 1 #[.val (.ref a)] [(.ref a)]))) (fun _ kk => XS.aloadN X0.here hx rfl (hb hby d33_0) rfl rfl kk) ?_
  obtain ⟨T1, X1, e1, st1⟩ := getF X0 hx hZ hown (host := "") (Or.inl (wd 86 rfl)) Via.refl e0 Fr_ (g := (mkF m 1 #[.val (.ref a)] [(.ref a)])) rfl rfl (hb hby d33_1)
  refine go_of (B := (T1.setTop (mkF m 4 #[.val (.ref a)] [(.ref rl)]))) (st1) ?_
  refine go_end X1 (v := some (.ref rl)) (fun h => by rw [Bd.returns] at h; cases h) Bd.notSynchronized (by decide) (by decide) (Q := (Q_dsr Z a rl h0 n0)) ?_ (fun fs hr => own_retA X1 hx Bd.returns rfl rfl (hb hby d33_4) hr)
  unfold Q_dsr
  try rw [e1]
  exact ⟨rfl, N0, rfl⟩
theorem d35_0 : decode prog_31_method_8_code 0 = .ok (.aload_n 0, 1) := by decide +kernel
theorem d35_1 : decode prog_31_method_8_code 1 = .ok (.getfield 17, 3) := by decide +kernel
theorem d35_4 : decode prog_31_method_8_code 4 = .ok (.lreturn, 1) := by decide +kernel
def Q_rpu (Z : State) (a : Addr) (r : Int64) (h0 : Heap) (n0 : Nat) (v : Option Value) (h : Heap) (L : List Loc) : Prop := v = some (.long r) ∧ Fr n0 L ∧ h = h0
theorem ef_rpu (m : MethodId) (a : Addr)  : entryFrame m #[(.ref a)] 1 = mkF m 0 #[.val (.ref a)] [] := by first | (simp [entryFrame, mkF, argsToLocals, Value.category]; done) | rfl
theorem rpu (l : Launch) (Z : State) (a0 : Array Value) (hw : TW a0 Z) (ws : List Cond) (a : Addr) (r : Int64) (h0 : Heap) (n0 : Nat) (Z0 : n0 ≤ h0.size) (Fr_ : Fld Z h0 a "com/example/wombat/wombat/rules/RateLimit" "requestsPerUnit" "J" (.long r)) :
    own_MF l Z MN6 prog_31_method_8_code 1 (some .long) ws (own_R 0 0 0 0) #[(.ref a)] h0 (Q_rpu Z a r h0 n0) := by
  have wd := @own_wd _ _ hw
  refine MetFree.of_bodySF (plainFor_of_name pn_com_example_wombat_wombat_rules_RateLimit) hisR ?_
  intro p e s m args below meth c s₁ Bd hml0 hP hK
  obtain ⟨rfl, hZ, hh⟩ := hP
  have hx := Bd.exec
  have hby := Bd.bytes
  have hml : c.maxLocals = 1 := hml0
  have hown : s.vm.findClass "com/example/wombat/wombat/rules/RateLimit" = some m.cls := findClass_of_methodNamed Bd.named
  have hnm := (name_of_methodNamed Bd.named Bd.method).1
  have X0 : Stand p l e (own_R 0 0 0 0) s m #[(.ref a)] below meth c s₁ [] 0 0 := Stand.of_body Bd
  have e0 : s₁.heap = h0 := by rw [← hh, Bd.state]; rfl
  have N0 := Fr.nil n0
  refine go_of (A := s₁.setTop (entryFrame m #[(.ref a)] 1)) (B := s₁.setTop (mkF m 0 #[.val (.ref a)] [])) (fun _ kk' => castTop (ef_rpu m a) kk') ?_
  refine go_of (B := (s₁.setTop (mkF m 1 #[.val (.ref a)] [(.ref a)]))) (fun _ kk => XS.aloadN X0.here hx rfl (hb hby d35_0) rfl rfl kk) ?_
  obtain ⟨T1, X1, e1, st1⟩ := getF X0 hx hZ hown (host := "") (Or.inl (wd 27 rfl)) Via.refl e0 Fr_ (g := (mkF m 1 #[.val (.ref a)] [(.ref a)])) rfl rfl (hb hby d35_1)
  refine go_of (B := (T1.setTop (mkF m 4 #[.val (.ref a)] [(.long r)]))) (st1) ?_
  refine go_end X1 (v := some (.long r)) (fun h => by rw [Bd.returns] at h; cases h) Bd.notSynchronized (by decide) (by decide) (Q := (Q_rpu Z a r h0 n0)) ?_ (fun fs hr => own_retL X1 hx Bd.returns (hb hby d35_4) hr)
  unfold Q_rpu
  try rw [e1]
  exact ⟨rfl, N0, rfl⟩
theorem d23_0 : decode jdk_65_method_120_code 0 = .ok (.aload_n 2, 1) := by decide +kernel
theorem d23_1 : decode jdk_65_method_120_code 1 = .ok (.ldc 110, 2) := by decide +kernel
theorem d23_3 : decode jdk_65_method_120_code 3 = .ok (.if_acmp .ne 10, 3) := by decide +kernel
theorem d23_6 : decode jdk_65_method_120_code 6 = .ok (.iload_n 1, 1) := by decide +kernel
theorem d23_7 : decode jdk_65_method_120_code 7 = .ok (.anewarray 2, 3) := by decide +kernel
theorem d23_10 : decode jdk_65_method_120_code 10 = .ok (.goto 14, 3) := by decide +kernel
theorem d23_24 : decode jdk_65_method_120_code 24 = .ok (.astore_n 3, 1) := by decide +kernel
theorem d23_25 : decode jdk_65_method_120_code 25 = .ok (.aload_n 0, 1) := by decide +kernel
theorem d23_26 : decode jdk_65_method_120_code 26 = .ok (.iconst 0, 1) := by decide +kernel
theorem d23_27 : decode jdk_65_method_120_code 27 = .ok (.aload_n 3, 1) := by decide +kernel
theorem d23_28 : decode jdk_65_method_120_code 28 = .ok (.iconst 0, 1) := by decide +kernel
theorem d23_29 : decode jdk_65_method_120_code 29 = .ok (.aload_n 0, 1) := by decide +kernel
theorem d23_30 : decode jdk_65_method_120_code 30 = .ok (.arraylength, 1) := by decide +kernel
theorem d23_31 : decode jdk_65_method_120_code 31 = .ok (.iload_n 1, 1) := by decide +kernel
theorem d23_32 : decode jdk_65_method_120_code 32 = .ok (.invokestatic 304, 3) := by decide +kernel
theorem d23_35 : decode jdk_65_method_120_code 35 = .ok (.invokestatic 150, 3) := by decide +kernel
theorem d23_38 : decode jdk_65_method_120_code 38 = .ok (.aload_n 3, 1) := by decide +kernel
theorem d23_39 : decode jdk_65_method_120_code 39 = .ok (.areturn, 1) := by decide +kernel
def Q_cp3_1 (Z : State) (d : Addr) (mr : Addr) (kD : ClassId) (x0 : Addr) (h0 : Heap) (n0 : Nat) (v : Option Value) (h : Heap) (L : List Loc) : Prop := ∃ (t : Addr) (k : ClassId), v = some (.ref t) ∧ Fr n0 L ∧ h0.size ≤ t ∧ Keep h0 h [] ∧ Arv Z h t k (.object "java/lang/Object") 1 [.ref x0] .null
theorem pn_java_util_Arrays : plainName "java/util/Arrays" = true := by first | (simp [plainName, overriddenIn]; done) | decide +kernel
theorem ef_cp3_1 (m : MethodId) (d : Addr) (mr : Addr)  : entryFrame m #[(.ref d), (.int (1 : Int32)), (.ref mr)] 4 = mkF m 0 #[.val (.ref d), .val (.int (1 : Int32)), .val (.ref mr), .unset] [] := by first | (simp [entryFrame, mkF, argsToLocals, Value.category]; done) | rfl
theorem cp3_1 (l : Launch) (Z : State) (a0 : Array Value) (hw : TW a0 Z) (ws : List Cond) (d : Addr) (mr : Addr) (kD : ClassId) (x0 : Addr) (h0 : Heap) (n0 : Nat) (Z0 : n0 ≤ h0.size) (M : own_Mir Z "[Ljava/lang/Object;" mr) (VD : Arv Z h0 d kD (.object "java/lang/Object") 10 [.ref x0, .null, .null, .null, .null, .null, .null, .null, .null, .null] .null) (Ix0 : Ins Z h0 x0 "java/lang/Object" true) :
    own_MF l Z MN16 jdk_65_method_120_code 4 (some (.array (.object "java/lang/Object"))) ws (own_R 1 1 1 18) #[(.ref d), (.int (1 : Int32)), (.ref mr)] h0 (Q_cp3_1 Z d mr kD x0 h0 n0) := by
  have wd := @own_wd _ _ hw
  refine MetFree.of_bodySF (plainFor_of_name pn_java_util_Arrays) hisR ?_
  intro p e s m args below meth c s₁ Bd hml0 hP hK
  obtain ⟨rfl, hZ, hh⟩ := hP
  have hx := Bd.exec
  have hby := Bd.bytes
  have hml : c.maxLocals = 4 := hml0
  have hown : s.vm.findClass "java/util/Arrays" = some m.cls := findClass_of_methodNamed Bd.named
  have hnm := (name_of_methodNamed Bd.named Bd.method).1
  have X0 : Stand p l e (own_R 1 1 1 18) s m #[(.ref d), (.int (1 : Int32)), (.ref mr)] below meth c s₁ [] 0 0 := Stand.of_body Bd
  have e0 : s₁.heap = h0 := by rw [← hh, Bd.state]; rfl
  have N0 := Fr.nil n0
  have ltd := own_nlt (VD.lt)
  refine go_of (A := s₁.setTop (entryFrame m #[(.ref d), (.int (1 : Int32)), (.ref mr)] 4)) (B := s₁.setTop (mkF m 0 #[.val (.ref d), .val (.int (1 : Int32)), .val (.ref mr), .unset] [])) (fun _ kk' => castTop (ef_cp3_1 m d mr) kk') ?_
  refine go_of (B := (s₁.setTop (mkF m 1 #[.val (.ref d), .val (.int (1 : Int32)), .val (.ref mr), .unset] [(.ref mr)]))) (fun _ kk => XS.aloadN X0.here hx rfl (hb hby d23_0) rfl rfl kk) ?_
  obtain ⟨vm1, X1, st1⟩ := X0.ldcMirror hx hown (mvT hZ (wd 187 rfl)) (own_mirT (own_mirS hZ M)) (g := (mkF m 1 #[.val (.ref d), .val (.int (1 : Int32)), .val (.ref mr), .unset] [(.ref mr)])) rfl (hb hby d23_1)
  have e1 : (s₁.setVm vm1).heap = h0 := e0
  refine go_of (B := ((s₁.setVm vm1).setTop (mkF m 3 #[.val (.ref d), .val (.int (1 : Int32)), .val (.ref mr), .unset] [(.ref mr), (.ref mr)]))) (st1) ?_
  refine go_of (B := ((s₁.setVm vm1).setTop (mkF m 7 #[.val (.ref d), .val (.int (1 : Int32)), .val (.ref mr), .unset] [(.int (1 : Int32))]))) (fun _ kk => Jvm.RoadKit.acmp (g := (mkF m 3 #[.val (.ref d), .val (.int (1 : Int32)), .val (.ref mr), .unset] [(.ref mr), (.ref mr)])) X1 hx rfl rfl rfl (pc0 := 3) (pc' := 6) (same := true) rfl (hb hby d23_3) rfl (decide_eq_true rfl) (by decide) (by decide) (XS.iloadN X1.here hx rfl (hb hby d23_6) rfl kk)) ?_
  obtain ⟨T2, h2, k2, X2, e2, E2, A2, O2, st2⟩ := newR X1 hx hZ hown (wd 188 rfl) (wd 145 rfl) e1 (g := (mkF m 7 #[.val (.ref d), .val (.int (1 : Int32)), .val (.ref mr), .unset] [(.int (1 : Int32))])) rfl (hb hby d23_7) rfl (by decide) (cap := 1) (by decide) (by decide) (by decide) (by decide)
  obtain ⟨b2, g2⟩ : ∃ z, z = h0.size := ⟨_, rfl⟩
  rw [← g2] at A2 st2
  have hi2 := own_nlt A2.lt
  have sz2 := E2.1
  have V2 : Arv Z h2 b2 k2 (.object "java/lang/Object") (1 : Int32) [.null] .null := (Arv.new A2 (by decide)).pad (pad_rep [] .null 1)
  refine go_of (B := (T2.setTop (mkF m 10 #[.val (.ref d), .val (.int (1 : Int32)), .val (.ref mr), .unset] [(.ref b2)]))) (st2) ?_
  refine go_of (B := (T2.setTop (mkF m 29 #[.val (.ref d), .val (.int (1 : Int32)), .val (.ref mr), .val (.ref b2)] [(.int (0 : Int32)), (.ref b2), (.int (0 : Int32)), (.ref d)]))) (fun _ kk => XS.goto X2.here hx rfl (pc0 := 10) (pc' := 24) rfl (hb hby d23_10) (by decide) (by decide) (XS.astoreN X2.here hx rfl (hb hby d23_24) rfl rfl rfl (XS.aloadN X2.here hx rfl (hb hby d23_25) rfl rfl (XS.iconst X2.here hx rfl (hb hby d23_26) (XS.aloadN X2.here hx rfl (hb hby d23_27) rfl rfl (XS.iconst X2.here hx rfl (hb hby d23_28) kk)))))) ?_
  refine go_of (B := (T2.setTop (mkF m 30 #[.val (.ref d), .val (.int (1 : Int32)), .val (.ref mr), .val (.ref b2)] [(.ref d), (.int (0 : Int32)), (.ref b2), (.int (0 : Int32)), (.ref d)]))) (fun _ kk => XS.aloadN X2.here hx rfl (hb hby d23_29) rfl rfl kk) ?_
  have cf_3 := (VD.ext E2)
  obtain ⟨cl4, Ar4, q4, Sz4, Nn4, Hh4, G4⟩ := id (cf_3)
  have ln4 := len_of Sz4 Nn4
  refine go_of (B := (T2.setTop (mkF m 31 #[.val (.ref d), .val (.int (1 : Int32)), .val (.ref mr), .val (.ref b2)] [(.int (10 : Int32)), (.int (0 : Int32)), (.ref b2), (.int (0 : Int32)), (.ref d)]))) (fun _ kk => X2.arraylength hx (by rw [e2]; exact Ar4.1) (State.isArrayOf_alike hZ.alike Ar4.2.1) (g := (mkF m 30 #[.val (.ref d), .val (.int (1 : Int32)), .val (.ref mr), .val (.ref b2)] [(.ref d), (.int (0 : Int32)), (.ref b2), (.int (0 : Int32)), (.ref d)])) rfl rfl (hb hby d23_30) _ (by rw [ln4]; exact kk)) ?_
  refine go_of (B := (T2.setTop (mkF m 32 #[.val (.ref d), .val (.int (1 : Int32)), .val (.ref mr), .val (.ref b2)] [(.int (1 : Int32)), (.int (10 : Int32)), (.int (0 : Int32)), (.ref b2), (.int (0 : Int32)), (.ref d)]))) (fun _ kk => XS.iloadN X2.here hx rfl (hb hby d23_31) rfl kk) ?_
  obtain ⟨_, _, ⟨T5, L5, k5, n5⟩, -, X5, ⟨Lc5, hQ5, l5, y5, z5⟩, st5⟩ := Jvm.LawKit.callS X2 hx (y := MN7) hown (mvT hZ (wd 189 rfl)) (mvT hZ (wd 190 rfl)) (mvT hZ (wd 142 rfl)) (mvT hZ (wd 191 rfl)) (by decide) (backOf (W := 4) (mmin l Z a0 hw [] (10 : Int32) (1 : Int32) (1 : Int32) h2 n0 (by omega) (by decide)) hZ (wd 191 rfl) (wd 142 rfl) (by decide) (by decide)) (g := (mkF m 32 #[.val (.ref d), .val (.int (1 : Int32)), .val (.ref mr), .val (.ref b2)] [(.int (1 : Int32)), (.int (10 : Int32)), (.int (0 : Int32)), (.ref b2), (.int (0 : Int32)), (.ref d)])) rfl (by rw [hml]; rfl) (argsL := [(.int (10 : Int32)), (.int (1 : Int32))]) (rest := [(.int (0 : Int32)), (.ref b2), (.int (0 : Int32)), (.ref d)]) (lenOf pd__II_I rfl) rfl (Nat.le_of_eq rfl) (hb hby d23_32) (fun _ _ => ⟨rfl, e2, (by decide : 1 + 0 ≤ _), (by decide : 1 + 0 ≤ _)⟩)
  dsimp only [Pt.U, Pt.locs, Pt.cells, Pt.slots] at X5 l5 y5 z5 st5 hQ5
  subst l5 y5 z5
  obtain ⟨rfl, N5q, e5⟩ := hQ5
  have N5 := Fr.app N0 N5q
  refine go_of (B := (T5.setTop (mkF m 35 #[.val (.ref d), .val (.int (1 : Int32)), .val (.ref mr), .val (.ref b2)] [(.int (1 : Int32)), (.int (0 : Int32)), (.ref b2), (.int (0 : Int32)), (.ref d)]))) (st5) ?_
  obtain ⟨cl6, Ar6, q6, Sz6, Nn6, Hh6, G6⟩ := id (V2)
  have cf_7 := (Ix0.ext E2)
  obtain ⟨T8, h8, L8, X8, e8, N8, K8, Vq8, st8⟩ := cpA X5 hx hZ hown (wd 192 rfl) (wd 195 rfl) (wd 193 rfl) (wd 194 rfl) e5 cf_3 V2 (us := [(.ref x0)]) (Or.inr ⟨rfl, rfl, ⟨Sto.ofV Ar6 q6 O2 cf_7, trivial⟩⟩) (by decide) (by decide) (by decide) (by decide) (by decide) rfl (Nat.le_of_ble_eq_true rfl) N5 ((by first | omega | exact own_ne (by omega) | exact own_le (by omega)) : n0 ≤ b2) (g := (mkF m 35 #[.val (.ref d), .val (.int (1 : Int32)), .val (.ref mr), .val (.ref b2)] [(.int (1 : Int32)), (.int (0 : Int32)), (.ref b2), (.int (0 : Int32)), (.ref d)])) rfl (by rw [hml]; rfl) rfl (hb hby d23_35) (by decide) (W := 0) (Nat.le_of_eq rfl) (by decide)
  have V8 : Arv Z h8 b2 k2 (.object "java/lang/Object") (1 : Int32) [(.ref x0)] .null := Vq8
  have sz8 := K8.1
  refine go_of (B := (T8.setTop (mkF m 38 #[.val (.ref d), .val (.int (1 : Int32)), .val (.ref mr), .val (.ref b2)] []))) (st8) ?_
  refine go_of (B := (T8.setTop (mkF m 39 #[.val (.ref d), .val (.int (1 : Int32)), .val (.ref mr), .val (.ref b2)] [(.ref b2)]))) (fun _ kk => XS.aloadN X8.here hx rfl (hb hby d23_38) rfl rfl kk) ?_
  refine go_end X8 (v := some (.ref b2)) (fun h => by rw [Bd.returns] at h; cases h) Bd.notSynchronized (by decide) (by decide) (Q := (Q_cp3_1 Z d mr kD x0 h0 n0)) ?_ (fun fs hr => own_retA X8 hx Bd.returns rfl rfl (hb hby d23_39) hr)
  unfold Q_cp3_1
  try rw [e8]
  exact ⟨b2, k2, rfl, N8, by omega, (((Keep.refl h0 []).ext E2).trans K8 (allS (Or.inr (by first | omega | exact own_ne (by omega) | exact own_le (by omega))) all0)), V8⟩
theorem d22_0 : decode jdk_65_method_119_code 0 = .ok (.aload_n 0, 1) := by decide +kernel
theorem d22_1 : decode jdk_65_method_119_code 1 = .ok (.iload_n 1, 1) := by decide +kernel
theorem d22_2 : decode jdk_65_method_119_code 2 = .ok (.aload_n 0, 1) := by decide +kernel
theorem d22_3 : decode jdk_65_method_119_code 3 = .ok (.invokevirtual 86, 3) := by decide +kernel
theorem d22_6 : decode jdk_65_method_119_code 6 = .ok (.invokestatic 300, 3) := by decide +kernel
theorem pd___Ljava_lang_Object_ILjava_lang_Class___Ljava_lang_Object_ : parseMethodDescriptor "([Ljava/lang/Object;ILjava/lang/Class;)[Ljava/lang/Object;" = some ⟨[(.array (.object "java/lang/Object")), .int, (.object "java/lang/Class")], some (.array (.object "java/lang/Object"))⟩ := by decide +kernel
theorem d22_9 : decode jdk_65_method_119_code 9 = .ok (.areturn, 1) := by decide +kernel
def Q_cp2_1 (Z : State) (d : Addr) (kD : ClassId) (x0 : Addr) (mr : Addr) (h0 : Heap) (n0 : Nat) (v : Option Value) (h : Heap) (L : List Loc) : Prop := ∃ (t : Addr) (k : ClassId), v = some (.ref t) ∧ Fr n0 L ∧ h0.size ≤ t ∧ Keep h0 h [] ∧ Arv Z h t k (.object "java/lang/Object") 1 [.ref x0] .null
theorem ef_cp2_1 (m : MethodId) (d : Addr)  : entryFrame m #[(.ref d), (.int (1 : Int32))] 2 = mkF m 0 #[.val (.ref d), .val (.int (1 : Int32))] [] := by first | (simp [entryFrame, mkF, argsToLocals, Value.category]; done) | rfl
theorem cp2_1 (l : Launch) (Z : State) (a0 : Array Value) (hw : TW a0 Z) (ws : List Cond) (d : Addr) (kD : ClassId) (x0 : Addr) (mr : Addr) (h0 : Heap) (n0 : Nat) (Z0 : n0 ≤ h0.size) (M : own_Mir Z "[Ljava/lang/Object;" mr) (VD : Arv Z h0 d kD (.object "java/lang/Object") 10 [.ref x0, .null, .null, .null, .null, .null, .null, .null, .null, .null] .null) (Ix0 : Ins Z h0 x0 "java/lang/Object" true) (ED : Exa Z h0 d "[Ljava/lang/Object;") :
    own_MF l Z MN15 jdk_65_method_119_code 2 (some (.array (.object "java/lang/Object"))) ws (own_R 2 1 1 33) #[(.ref d), (.int (1 : Int32))] h0 (Q_cp2_1 Z d kD x0 mr h0 n0) := by
  have wd := @own_wd _ _ hw
  refine MetFree.of_bodySF (plainFor_of_name pn_java_util_Arrays) hisR ?_
  intro p e s m args below meth c s₁ Bd hml0 hP hK
  obtain ⟨rfl, hZ, hh⟩ := hP
  have hx := Bd.exec
  have hby := Bd.bytes
  have hml : c.maxLocals = 2 := hml0
  have hown : s.vm.findClass "java/util/Arrays" = some m.cls := findClass_of_methodNamed Bd.named
  have hnm := (name_of_methodNamed Bd.named Bd.method).1
  have X0 : Stand p l e (own_R 2 1 1 33) s m #[(.ref d), (.int (1 : Int32))] below meth c s₁ [] 0 0 := Stand.of_body Bd
  have e0 : s₁.heap = h0 := by rw [← hh, Bd.state]; rfl
  have N0 := Fr.nil n0
  refine go_of (A := s₁.setTop (entryFrame m #[(.ref d), (.int (1 : Int32))] 2)) (B := s₁.setTop (mkF m 0 #[.val (.ref d), .val (.int (1 : Int32))] [])) (fun _ kk' => castTop (ef_cp2_1 m d) kk') ?_
  refine go_of (B := (s₁.setTop (mkF m 3 #[.val (.ref d), .val (.int (1 : Int32))] [(.ref d), (.int (1 : Int32)), (.ref d)]))) (fun _ kk => XS.aloadN X0.here hx rfl (hb hby d22_0) rfl rfl (XS.iloadN X0.here hx rfl (hb hby d22_1) rfl (XS.aloadN X0.here hx rfl (hb hby d22_2) rfl rfl kk))) ?_
  obtain ⟨vm1, X1, st1⟩ := own_gcls X0 hx hZ hown (wd 178 rfl) (wd 179 rfl) (wd 75 rfl) (wd 181 rfl) (wd 180 rfl) (wd 182 rfl) e0 ED M (g := (mkF m 3 #[.val (.ref d), .val (.int (1 : Int32))] [(.ref d), (.int (1 : Int32)), (.ref d)])) rfl (by rw [hml]; rfl) rfl (hb hby d22_3) (by decide) (W := 2) (Nat.le_of_eq rfl) (by decide)
  have e1 : (s₁.setVm vm1).heap = h0 := e0
  refine go_of (B := ((s₁.setVm vm1).setTop (mkF m 6 #[.val (.ref d), .val (.int (1 : Int32))] [(.ref mr), (.int (1 : Int32)), (.ref d)]))) (st1) ?_
  obtain ⟨_, _, ⟨T2, L2, k2, n2⟩, -, X2, ⟨Lc2, hQ2, l2, y2, z2⟩, st2⟩ := Jvm.LawKit.callS X1 hx (y := MN16) hown (mvT hZ (wd 184 rfl)) (mvT hZ (wd 185 rfl)) (mvT hZ (wd 176 rfl)) (mvT hZ (wd 186 rfl)) (by decide) (backOf (W := 0) (cp3_1 l Z a0 hw [] d mr kD x0 h0 n0 (by omega) M VD Ix0) hZ (wd 186 rfl) (wd 176 rfl) (by decide) (by decide)) (g := (mkF m 6 #[.val (.ref d), .val (.int (1 : Int32))] [(.ref mr), (.int (1 : Int32)), (.ref d)])) rfl (by rw [hml]; rfl) (argsL := [(.ref d), (.int (1 : Int32)), (.ref mr)]) (rest := []) (lenOf pd___Ljava_lang_Object_ILjava_lang_Class___Ljava_lang_Object_ rfl) rfl (Nat.le_of_eq rfl) (hb hby d22_6) (fun _ _ => ⟨rfl, e1, (by decide : 0 + 1 ≤ _), (by decide : 0 + 1 ≤ _)⟩)
  dsimp only [Pt.U, Pt.locs, Pt.cells, Pt.slots] at X2 l2 y2 z2 st2 hQ2
  subst l2 y2 z2
  obtain ⟨b2, k2, rfl, N2q, lo2, K2, V2⟩ := hQ2
  have lo2 := own_nle lo2
  have N2 := Fr.app N0 N2q
  have hi2 := own_nlt (V2.lt)
  have sz2 := K2.1
  refine go_of (B := (T2.setTop (mkF m 9 #[.val (.ref d), .val (.int (1 : Int32))] [(.ref b2)]))) (st2) ?_
  refine go_end X2 (v := some (.ref b2)) (fun h => by rw [Bd.returns] at h; cases h) Bd.notSynchronized (by decide) (by decide) (Q := (Q_cp2_1 Z d kD x0 mr h0 n0)) ?_ (fun fs hr => own_retA X2 hx Bd.returns rfl rfl (hb hby d22_9) hr)
  unfold Q_cp2_1
  exact ⟨b2, k2, rfl, N2, by omega, ((Keep.refl h0 []).trans K2 all0), V2⟩
theorem d21_0 : decode jdk_38_method_16_code 0 = .ok (.aload_n 0, 1) := by decide +kernel
theorem d21_1 : decode jdk_38_method_16_code 1 = .ok (.getfield 9, 3) := by decide +kernel
theorem d21_4 : decode jdk_38_method_16_code 4 = .ok (.aload_n 0, 1) := by decide +kernel
theorem d21_5 : decode jdk_38_method_16_code 5 = .ok (.getfield 48, 3) := by decide +kernel
theorem d21_8 : decode jdk_38_method_16_code 8 = .ok (.invokestatic 66, 3) := by decide +kernel
theorem pd___Ljava_lang_Object_I__Ljava_lang_Object_ : parseMethodDescriptor "([Ljava/lang/Object;I)[Ljava/lang/Object;" = some ⟨[(.array (.object "java/lang/Object")), .int], some (.array (.object "java/lang/Object"))⟩ := by decide +kernel
theorem d21_11 : decode jdk_38_method_16_code 11 = .ok (.areturn, 1) := by decide +kernel
def Q_toa_1 (Z : State) (a : Addr) (d : Addr) (mc : Int32) (kD : ClassId) (x0 : Addr) (mr : Addr) (h0 : Heap) (n0 : Nat) (v : Option Value) (h : Heap) (L : List Loc) : Prop := ∃ (t : Addr) (k : ClassId), v = some (.ref t) ∧ Fr n0 L ∧ h0.size ≤ t ∧ Keep h0 h [] ∧ Arv Z h t k (.object "java/lang/Object") 1 [.ref x0] .null
theorem ef_toa_1 (m : MethodId) (a : Addr)  : entryFrame m #[(.ref a)] 1 = mkF m 0 #[.val (.ref a)] [] := by first | (simp [entryFrame, mkF, argsToLocals, Value.category]; done) | rfl
theorem toa_1 (l : Launch) (Z : State) (a0 : Array Value) (hw : TW a0 Z) (ws : List Cond) (a : Addr) (d : Addr) (mc : Int32) (kD : ClassId) (x0 : Addr) (mr : Addr) (h0 : Heap) (n0 : Nat) (Z0 : n0 ≤ h0.size) (A : AL Z h0 a mc d 1) (M : own_Mir Z "[Ljava/lang/Object;" mr) (VD : Arv Z h0 d kD (.object "java/lang/Object") 10 [.ref x0, .null, .null, .null, .null, .null, .null, .null, .null, .null] .null) (Ix0 : Ins Z h0 x0 "java/lang/Object" true) (ED : Exa Z h0 d "[Ljava/lang/Object;") :
    own_MF l Z MN14 jdk_38_method_16_code 1 (some (.array (.object "java/lang/Object"))) ws (own_R 3 1 1 46) #[(.ref a)] h0 (Q_toa_1 Z a d mc kD x0 mr h0 n0) := by
  have wd := @own_wd _ _ hw
  refine MetFree.of_bodySF (plainFor_of_name pn_java_util_ArrayList) hisR ?_
  intro p e s m args below meth c s₁ Bd hml0 hP hK
  obtain ⟨rfl, hZ, hh⟩ := hP
  have hx := Bd.exec
  have hby := Bd.bytes
  have hml : c.maxLocals = 1 := hml0
  have hown : s.vm.findClass "java/util/ArrayList" = some m.cls := findClass_of_methodNamed Bd.named
  have hnm := (name_of_methodNamed Bd.named Bd.method).1
  have X0 : Stand p l e (own_R 3 1 1 46) s m #[(.ref a)] below meth c s₁ [] 0 0 := Stand.of_body Bd
  have e0 : s₁.heap = h0 := by rw [← hh, Bd.state]; rfl
  have N0 := Fr.nil n0
  refine go_of (A := s₁.setTop (entryFrame m #[(.ref a)] 1)) (B := s₁.setTop (mkF m 0 #[.val (.ref a)] [])) (fun _ kk' => castTop (ef_toa_1 m a) kk') ?_
  refine go_of (B := (s₁.setTop (mkF m 1 #[.val (.ref a)] [(.ref a)]))) (fun _ kk => XS.aloadN X0.here hx rfl (hb hby d21_0) rfl rfl kk) ?_
  obtain ⟨T1, X1, e1, st1⟩ := getF X0 hx hZ hown (host := "") (Or.inl (wd 114 rfl)) Via.refl e0 A.2.2.1 (g := (mkF m 1 #[.val (.ref a)] [(.ref a)])) rfl rfl (hb hby d21_1)
  refine go_of (B := (T1.setTop (mkF m 4 #[.val (.ref a)] [(.ref d)]))) (st1) ?_
  refine go_of (B := (T1.setTop (mkF m 5 #[.val (.ref a)] [(.ref a), (.ref d)]))) (fun _ kk => XS.aloadN X1.here hx rfl (hb hby d21_4) rfl rfl kk) ?_
  obtain ⟨T2, X2, e2, st2⟩ := getF X1 hx hZ hown (host := "") (Or.inl (wd 123 rfl)) Via.refl e1 A.2.2.2 (g := (mkF m 5 #[.val (.ref a)] [(.ref a), (.ref d)])) rfl rfl (hb hby d21_5)
  refine go_of (B := (T2.setTop (mkF m 8 #[.val (.ref a)] [(.int (1 : Int32)), (.ref d)]))) (st2) ?_
  obtain ⟨_, _, ⟨T3, L3, k3, n3⟩, -, X3, ⟨Lc3, hQ3, l3, y3, z3⟩, st3⟩ := Jvm.LawKit.callS X2 hx (y := MN15) hown (mvT hZ (wd 174 rfl)) (mvT hZ (wd 175 rfl)) (mvT hZ (wd 176 rfl)) (mvT hZ (wd 177 rfl)) (by decide) (backOf (W := 0) (cp2_1 l Z a0 hw [] d kD x0 mr h0 n0 (by omega) M VD Ix0 ED) hZ (wd 177 rfl) (wd 176 rfl) (by decide) (by decide)) (g := (mkF m 8 #[.val (.ref a)] [(.int (1 : Int32)), (.ref d)])) rfl (by rw [hml]; rfl) (argsL := [(.ref d), (.int (1 : Int32))]) (rest := []) (lenOf pd___Ljava_lang_Object_I__Ljava_lang_Object_ rfl) rfl (Nat.le_of_eq rfl) (hb hby d21_8) (fun _ _ => ⟨rfl, e2, (by decide : 0 + 1 ≤ _), (by decide : 0 + 1 ≤ _)⟩)
  dsimp only [Pt.U, Pt.locs, Pt.cells, Pt.slots] at X3 l3 y3 z3 st3 hQ3
  subst l3 y3 z3
  obtain ⟨b3, k3, rfl, N3q, lo3, K3, V3⟩ := hQ3
  have lo3 := own_nle lo3
  have N3 := Fr.app N0 N3q
  have hi3 := own_nlt (V3.lt)
  have sz3 := K3.1
  refine go_of (B := (T3.setTop (mkF m 11 #[.val (.ref a)] [(.ref b3)]))) (st3) ?_
  refine go_end X3 (v := some (.ref b3)) (fun h => by rw [Bd.returns] at h; cases h) Bd.notSynchronized (by decide) (by decide) (Q := (Q_toa_1 Z a d mc kD x0 mr h0 n0)) ?_ (fun fs hr => own_retA X3 hx Bd.returns rfl rfl (hb hby d21_11) hr)
  unfold Q_toa_1
  exact ⟨b3, k3, rfl, N3, by omega, ((Keep.refl h0 []).trans K3 all0), V3⟩
theorem d20_0 : decode jdk_38_method_9_code 0 = .ok (.aload_n 0, 1) := by decide +kernel
theorem d20_1 : decode jdk_38_method_9_code 1 = .ok (.getfield 48, 3) := by decide +kernel
theorem d20_4 : decode jdk_38_method_9_code 4 = .ok (.ifCond .ne 7, 3) := by decide +kernel
theorem d20_11 : decode jdk_38_method_9_code 11 = .ok (.iconst 0, 1) := by decide +kernel
theorem d20_12 : decode jdk_38_method_9_code 12 = .ok (.ireturn, 1) := by decide +kernel
def Q_ie_1 (Z : State) (a : Addr) (d : Addr) (mc : Int32) (h0 : Heap) (n0 : Nat) (v : Option Value) (h : Heap) (L : List Loc) : Prop := v = some (.int 0) ∧ Fr n0 L ∧ h = h0
theorem ef_ie_1 (m : MethodId) (a : Addr)  : entryFrame m #[(.ref a)] 1 = mkF m 0 #[.val (.ref a)] [] := by first | (simp [entryFrame, mkF, argsToLocals, Value.category]; done) | rfl
theorem ie_1 (l : Launch) (Z : State) (a0 : Array Value) (hw : TW a0 Z) (ws : List Cond) (a : Addr) (d : Addr) (mc : Int32) (h0 : Heap) (n0 : Nat) (Z0 : n0 ≤ h0.size) (A : AL Z h0 a mc d 1) :
    own_MF l Z MN13 jdk_38_method_9_code 1 (some .boolean) ws (own_R 0 0 0 0) #[(.ref a)] h0 (Q_ie_1 Z a d mc h0 n0) := by
  have wd := @own_wd _ _ hw
  refine MetFree.of_bodySF (plainFor_of_name pn_java_util_ArrayList) hisR ?_
  intro p e s m args below meth c s₁ Bd hml0 hP hK
  obtain ⟨rfl, hZ, hh⟩ := hP
  have hx := Bd.exec
  have hby := Bd.bytes
  have hml : c.maxLocals = 1 := hml0
  have hown : s.vm.findClass "java/util/ArrayList" = some m.cls := findClass_of_methodNamed Bd.named
  have hnm := (name_of_methodNamed Bd.named Bd.method).1
  have X0 : Stand p l e (own_R 0 0 0 0) s m #[(.ref a)] below meth c s₁ [] 0 0 := Stand.of_body Bd
  have e0 : s₁.heap = h0 := by rw [← hh, Bd.state]; rfl
  have N0 := Fr.nil n0
  refine go_of (A := s₁.setTop (entryFrame m #[(.ref a)] 1)) (B := s₁.setTop (mkF m 0 #[.val (.ref a)] [])) (fun _ kk' => castTop (ef_ie_1 m a) kk') ?_
  refine go_of (B := (s₁.setTop (mkF m 1 #[.val (.ref a)] [(.ref a)]))) (fun _ kk => XS.aloadN X0.here hx rfl (hb hby d20_0) rfl rfl kk) ?_
  obtain ⟨T1, X1, e1, st1⟩ := getF X0 hx hZ hown (host := "") (Or.inl (wd 123 rfl)) Via.refl e0 A.2.2.2 (g := (mkF m 1 #[.val (.ref a)] [(.ref a)])) rfl rfl (hb hby d20_1)
  refine go_of (B := (T1.setTop (mkF m 4 #[.val (.ref a)] [(.int (1 : Int32))]))) (st1) ?_
  refine go_of (B := (T1.setTop (mkF m 12 #[.val (.ref a)] [(.int (0 : Int32))]))) (fun _ kk => XS.ifYes X1.here hx rfl (pc0 := 4) (pc' := 11) rfl (hb hby d20_4) rfl ((if0 _ _).trans (feq (by decide : ¬ ((1 : Int32) = (0 : Int32)))).2) (by decide) (by decide) (XS.iconst X1.here hx rfl (hb hby d20_11) kk)) ?_
  refine go_end X1 (v := some (.int (nar .boolean (0 : Int32)))) (fun h => by rw [Bd.returns] at h; cases h) Bd.notSynchronized (by decide) (by decide) (Q := (Q_ie_1 Z a d mc h0 n0)) ?_ (fun fs hr => retN X1 hx (t := .boolean) Bd.returns (by simp) (hb hby d20_12) hr)
  unfold Q_ie_1
  try rw [e1]
  exact ⟨rfl, N0, rfl⟩
theorem d25_0 : decode jdk_40_method_47_code 0 = .ok (.aload_n 0, 1) := by decide +kernel
theorem d25_1 : decode jdk_40_method_47_code 1 = .ok (.arraylength, 1) := by decide +kernel
theorem d25_2 : decode jdk_40_method_47_code 2 = .ok (.tableswitch 57 0 2 #[26, 32, 43], 26) := by decide +kernel
theorem d25_34 : decode jdk_40_method_47_code 34 = .ok (.new 96, 3) := by decide +kernel
theorem d25_37 : decode jdk_40_method_47_code 37 = .ok (.dup, 1) := by decide +kernel
theorem d25_38 : decode jdk_40_method_47_code 38 = .ok (.aload_n 0, 1) := by decide +kernel
theorem d25_39 : decode jdk_40_method_47_code 39 = .ok (.iconst 0, 1) := by decide +kernel
theorem d25_40 : decode jdk_40_method_47_code 40 = .ok (.aaload, 1) := by decide +kernel
theorem d25_41 : decode jdk_40_method_47_code 41 = .ok (.invokespecial 98, 3) := by decide +kernel
theorem pd__Ljava_lang_Object__V : parseMethodDescriptor "(Ljava/lang/Object;)V" = some ⟨[(.object "java/lang/Object")], none⟩ := by decide +kernel
theorem d25_44 : decode jdk_40_method_47_code 44 = .ok (.areturn, 1) := by decide +kernel
def Q_loa_1 (Z : State) (d : Addr) (kD : ClassId) (x0 : Addr) (wM : Addr) (h0 : Heap) (n0 : Nat) (v : Option Value) (h : Heap) (L : List Loc) : Prop := ∃ (t : Addr), v = some (.ref t) ∧ Fr n0 L ∧ h0.size ≤ t ∧ Keep h0 h [] ∧ L2 Z h t x0 wM
theorem ef_loa_1 (m : MethodId) (d : Addr)  : entryFrame m #[(.ref d)] 2 = mkF m 0 #[.val (.ref d), .unset] [] := by first | (simp [entryFrame, mkF, argsToLocals, Value.category]; done) | rfl
theorem loa_1 (l : Launch) (Z : State) (a0 : Array Value) (hw : TW a0 Z) (ws : List Cond) (d : Addr) (kD : ClassId) (x0 : Addr) (wM : Addr) (h0 : Heap) (n0 : Nat) (Z0 : n0 ≤ h0.size) (O : Old Z n0 h0) (SM : Sta Z Z.heap "java/util/ImmutableCollections" "EMPTY" "Ljava/lang/Object;" (.ref wM)) (VD : Arv Z h0 d kD (.object "java/lang/Object") 1 [.ref x0] .null) :
    own_MF l Z MN30 jdk_40_method_47_code 2 (some (.object "java/util/List")) ws (own_R 5 1 2 62) #[(.ref d)] h0 (Q_loa_1 Z d kD x0 wM h0 n0) := by
  have wd := @own_wd _ _ hw
  refine MetFree.of_bodySF (plainFor_of_name pn_java_util_List) hisR ?_
  intro p e s m args below meth c s₁ Bd hml0 hP hK
  obtain ⟨rfl, hZ, hh⟩ := hP
  have hx := Bd.exec
  have hby := Bd.bytes
  have hml : c.maxLocals = 2 := hml0
  have hown : s.vm.findClass "java/util/List" = some m.cls := findClass_of_methodNamed Bd.named
  have hnm := (name_of_methodNamed Bd.named Bd.method).1
  have X0 : Stand p l e (own_R 5 1 2 62) s m #[(.ref d)] below meth c s₁ [] 0 0 := Stand.of_body Bd
  have e0 : s₁.heap = h0 := by rw [← hh, Bd.state]; rfl
  have N0 := Fr.nil n0
  have ltd := own_nlt (VD.lt)
  refine go_of (A := s₁.setTop (entryFrame m #[(.ref d)] 2)) (B := s₁.setTop (mkF m 0 #[.val (.ref d), .unset] [])) (fun _ kk' => castTop (ef_loa_1 m d) kk') ?_
  refine go_of (B := (s₁.setTop (mkF m 1 #[.val (.ref d), .unset] [(.ref d)]))) (fun _ kk => XS.aloadN X0.here hx rfl (hb hby d25_0) rfl rfl kk) ?_
  obtain ⟨cl1, Ar1, q1, Sz1, Nn1, Hh1, G1⟩ := id (VD)
  have ln1 := len_of Sz1 Nn1
  refine go_of (B := (s₁.setTop (mkF m 2 #[.val (.ref d), .unset] [(.int (1 : Int32))]))) (fun _ kk => X0.arraylength hx (by rw [e0]; exact Ar1.1) (State.isArrayOf_alike hZ.alike Ar1.2.1) (g := (mkF m 1 #[.val (.ref d), .unset] [(.ref d)])) rfl rfl (hb hby d25_1) _ (by rw [ln1]; exact kk)) ?_
  refine go_of (B := (s₁.setTop (mkF m 34 #[.val (.ref d), .unset] []))) (fun _ kk => own_tsw (g := (mkF m 2 #[.val (.ref d), .unset] [(.int (1 : Int32))])) X0 hx rfl rfl (pc0 := 2) (pc' := 34) rfl (hb hby d25_2) 1 (by decide) (by decide) 32 (by decide) (by decide) (by decide) kk) ?_
  obtain ⟨T2, h2, X2, e2, E2, A2, D2, -, st2⟩ := newO X0 hx hZ hown (wd 199 rfl) (wd 200 rfl) (wd 201 rfl) e0 (g := (mkF m 34 #[.val (.ref d), .unset] [])) rfl (hb hby d25_34) (by decide) (by decide)
  obtain ⟨b2, g2⟩ : ∃ z, z = h0.size := ⟨_, rfl⟩
  rw [← g2] at A2 D2 st2
  have hi2 := own_nlt A2.lt
  have sz2 := E2.1
  have F2_e0 : Fld Z h2 b2 "java/util/ImmutableCollections$List12" "e0" "Ljava/lang/Object;" .null := D2 (Or.inr (wd 224 rfl)) (ty := (.object "java/lang/Object")) (by decide)
  have F2_e1 : Fld Z h2 b2 "java/util/ImmutableCollections$List12" "e1" "Ljava/lang/Object;" .null := D2 (Or.inr (wd 227 rfl)) (ty := (.object "java/lang/Object")) (by decide)
  refine go_of (B := (T2.setTop (mkF m 37 #[.val (.ref d), .unset] [(.ref b2)]))) (st2) ?_
  refine go_of (B := (T2.setTop (mkF m 40 #[.val (.ref d), .unset] [(.int (0 : Int32)), (.ref d), (.ref b2), (.ref b2)]))) (fun _ kk => XS.dup X2.here hx rfl (hb hby d25_37) rfl rfl (XS.aloadN X2.here hx rfl (hb hby d25_38) rfl rfl (XS.iconst X2.here hx rfl (hb hby d25_39) kk))) ?_
  have cf_3 := (VD.ext E2)
  obtain ⟨cl4, Ar4, q4, Sz4, Nn4, Hh4, G4⟩ := id (cf_3)
  refine go_of (B := (T2.setTop (mkF m 41 #[.val (.ref d), .unset] [(.ref x0), (.ref b2), (.ref b2)]))) (fun _ kk => X2.aaload hx (j := (0 : Int32)) (v := (.ref x0)) (by rw [e2]; exact Ar4.1) (State.isArrayOf_alike hZ.alike Ar4.2.1) rfl Ar4.2.2 (inb_of Sz4 ⟨by decide, by decide⟩) (Hh4.at (inb_of Sz4 ⟨by decide, by decide⟩) rfl) (g := (mkF m 40 #[.val (.ref d), .unset] [(.int (0 : Int32)), (.ref d), (.ref b2), (.ref b2)])) rfl rfl (hb hby d25_40) _ kk) ?_
  have cf_5 := (O.ext E2)
  obtain ⟨_, _, ⟨T6, L6, k6, n6⟩, -, X6, ⟨Lc6, hQ6, l6, y6, z6⟩, st6⟩ := X2.specialBack hx (y := (⟨"java/util/ImmutableCollections$List12", "<init>", "(Ljava/lang/Object;)V"⟩ : MethodName)) rfl hown (mvT hZ (wd 202 rfl)) (mvT hZ (wd 203 rfl)) (mvT hZ (wd 205 rfl)) (by decide) (backOf (W := 1) (l12a l Z a0 hw [] b2 x0 _ _ wM h2 n0 (by omega) cf_5 SM A2 F2_e0 F2_e1 (by first | omega | exact own_ne (by omega) | exact own_le (by omega))) hZ (wd 205 rfl) (wd 201 rfl) (by decide) (by decide)) (g := (mkF m 41 #[.val (.ref d), .unset] [(.ref x0), (.ref b2), (.ref b2)])) rfl (by rw [hml]; rfl) (Steps.refl _) (a := b2) (argsL := [(.ref x0)]) (rest := [(.ref b2)]) (lenOf pd__Ljava_lang_Object__V rfl) rfl (Nat.le_of_eq rfl) (hb hby d25_41) (fun _ _ => ⟨rfl, e2, (by decide : 1 + 0 ≤ _), (by decide : 2 + 0 ≤ _)⟩)
  dsimp only [Pt.U, Pt.locs, Pt.cells, Pt.slots] at X6 l6 y6 z6 st6 hQ6
  subst l6 y6 z6
  obtain ⟨rfl, N6q, K6, A6⟩ := hQ6
  have N6 := Fr.app N0 N6q
  have sz6 := K6.1
  refine go_tr (B := (T6.setTop (mkF m 44 #[.val (.ref d), .unset] [(.ref b2)]))) (st6) ?_
  refine go_end X6 (v := some (.ref b2)) (fun h => by rw [Bd.returns] at h; cases h) Bd.notSynchronized (by decide) (by decide) (Q := (Q_loa_1 Z d kD x0 wM h0 n0)) ?_ (fun fs hr => own_retA X6 hx Bd.returns rfl rfl (hb hby d25_44) hr)
  unfold Q_loa_1
  exact ⟨b2, rfl, N6, by omega, (((Keep.refl h0 []).ext E2).trans K6 (allS (Or.inr (by first | omega | exact own_ne (by omega) | exact own_le (by omega))) all0)), ⟨A6.1, A6.2.1, A6.2.2⟩⟩
theorem d10_31 : decode jdk_56_method_3_code 31 = .ok (.aload_n 0, 1) := by decide +kernel
theorem d10_32 : decode jdk_56_method_3_code 32 = .ok (.invokeinterface 20 1, 5) := by decide +kernel
theorem pd___Z : parseMethodDescriptor "()Z" = some ⟨[], some .boolean⟩ := by decide +kernel
theorem d10_37 : decode jdk_56_method_3_code 37 = .ok (.ifCond .eq 7, 3) := by decide +kernel
theorem d10_44 : decode jdk_56_method_3_code 44 = .ok (.aload_n 0, 1) := by decide +kernel
theorem d10_45 : decode jdk_56_method_3_code 45 = .ok (.invokeinterface 30 1, 5) := by decide +kernel
theorem d10_50 : decode jdk_56_method_3_code 50 = .ok (.invokestatic 34, 3) := by decide +kernel
theorem pd___Ljava_lang_Object__Ljava_util_List_ : parseMethodDescriptor "([Ljava/lang/Object;)Ljava/util/List;" = some ⟨[(.array (.object "java/lang/Object"))], some (.object "java/util/List")⟩ := by decide +kernel
theorem d10_53 : decode jdk_56_method_3_code 53 = .ok (.areturn, 1) := by decide +kernel
def Q_lc_1 (Z : State) (a : Addr) (d : Addr) (mc : Int32) (kD : ClassId) (x0 : Addr) (mr : Addr) (wM : Addr) (h0 : Heap) (n0 : Nat) (v : Option Value) (h : Heap) (L : List Loc) : Prop := ∃ (t : Addr), v = some (.ref t) ∧ Fr n0 L ∧ h0.size ≤ t ∧ Keep h0 h [] ∧ L2 Z h t x0 wM
theorem ef_lc_1 (m : MethodId) (a : Addr)  : entryFrame m #[(.ref a)] 2 = mkF m 0 #[.val (.ref a), .unset] [] := by first | (simp [entryFrame, mkF, argsToLocals, Value.category]; done) | rfl
theorem lc_1 (l : Launch) (Z : State) (a0 : Array Value) (hw : TW a0 Z) (ws : List Cond) (a : Addr) (d : Addr) (mc : Int32) (kD : ClassId) (x0 : Addr) (mr : Addr) (wM : Addr) (h0 : Heap) (n0 : Nat) (Z0 : n0 ≤ h0.size) (O : Old Z n0 h0) (SM : Sta Z Z.heap "java/util/ImmutableCollections" "EMPTY" "Ljava/lang/Object;" (.ref wM)) (A : AL Z h0 a mc d 1) (M : own_Mir Z "[Ljava/lang/Object;" mr) (VD : Arv Z h0 d kD (.object "java/lang/Object") 10 [.ref x0, .null, .null, .null, .null, .null, .null, .null, .null, .null] .null) (Ix0 : Ins Z h0 x0 "java/lang/Object" true) (ED : Exa Z h0 d "[Ljava/lang/Object;") :
    own_MF l Z MN19 jdk_56_method_3_code 2 (some (.object "java/util/List")) ws (own_R 6 2 3 75) #[(.ref a)] h0 (Q_lc_1 Z a d mc kD x0 mr wM h0 n0) := by
  have wd := @own_wd _ _ hw
  refine MetFree.of_bodySF (plainFor_of_name pn_java_util_ImmutableCollections) hisR ?_
  intro p e s m args below meth c s₁ Bd hml0 hP hK
  obtain ⟨rfl, hZ, hh⟩ := hP
  have hx := Bd.exec
  have hby := Bd.bytes
  have hml : c.maxLocals = 2 := hml0
  have hown : s.vm.findClass "java/util/ImmutableCollections" = some m.cls := findClass_of_methodNamed Bd.named
  have hnm := (name_of_methodNamed Bd.named Bd.method).1
  have X0 : Stand p l e (own_R 6 2 3 75) s m #[(.ref a)] below meth c s₁ [] 0 0 := Stand.of_body Bd
  have e0 : s₁.heap = h0 := by rw [← hh, Bd.state]; rfl
  have N0 := Fr.nil n0
  refine go_of (A := s₁.setTop (entryFrame m #[(.ref a)] 2)) (B := s₁.setTop (mkF m 0 #[.val (.ref a), .unset] [])) (fun _ kk' => castTop (ef_lc_1 m a) kk') ?_
  refine go_of (B := (s₁.setTop (mkF m 1 #[.val (.ref a), .unset] [(.ref a)]))) (fun _ kk => XS.aloadN X0.here hx rfl (hb hby d10_0) rfl rfl kk) ?_
  obtain ⟨T1, X1, e1, st1⟩ := instNo X0 hx hZ hown (wd 70 rfl) e0 A.1 (own_nsno (wd 155 rfl) (wd 200 rfl) (NS.step (wd 155 rfl) (NS.step (wd 156 rfl) (NS.step (wd 74 rfl) (own_nsroot (wd 75 rfl) (wd 200 rfl) (by decide)) (by decide)) (by decide)) (by decide)) (by decide)) (g := (mkF m 1 #[.val (.ref a), .unset] [(.ref a)])) rfl rfl (hb hby d10_1)
  refine go_of (B := (T1.setTop (mkF m 4 #[.val (.ref a), .unset] [(.int (0 : Int32))]))) (st1) ?_
  refine go_of (B := (T1.setTop (mkF m 8 #[.val (.ref a), .unset] [(.ref a)]))) (fun _ kk => XS.ifNo X1.here hx rfl (hb hby d10_4) rfl ((if0 _ _).trans (teq (by decide : (0 : Int32) = (0 : Int32))).2) (XS.aloadN X1.here hx rfl (hb hby d10_7) rfl rfl kk)) ?_
  obtain ⟨T2, X2, e2, st2⟩ := instNo X1 hx hZ hown (wd 76 rfl) e1 A.1 (own_nsno (wd 155 rfl) (wd 280 rfl) (NS.step (wd 155 rfl) (NS.step (wd 156 rfl) (NS.step (wd 74 rfl) (own_nsroot (wd 75 rfl) (wd 280 rfl) (by decide)) (by decide)) (by decide)) (by decide)) (by decide)) (g := (mkF m 8 #[.val (.ref a), .unset] [(.ref a)])) rfl rfl (hb hby d10_8)
  refine go_of (B := (T2.setTop (mkF m 11 #[.val (.ref a), .unset] [(.int (0 : Int32))]))) (st2) ?_
  refine go_of (B := (T2.setTop (mkF m 32 #[.val (.ref a), .unset] [(.ref a)]))) (fun _ kk => XS.ifYes X2.here hx rfl (pc0 := 11) (pc' := 31) rfl (hb hby d10_11) rfl ((if0 _ _).trans (teq (by decide : (0 : Int32) = (0 : Int32))).1) (by decide) (by decide) (XS.aloadN X2.here hx rfl (hb hby d10_31) rfl rfl kk)) ?_
  obtain ⟨cq3, kq3, q3a, q3b, q3c⟩ := isOf hZ e2 A.1
  obtain ⟨_, _, ⟨T3, L3, k3, n3⟩, -, X3, ⟨Lc3, hQ3, l3, y3, z3⟩, st3⟩ := X2.interfaceBack hx (xi := MN17) (y := MN13) hown (mvT hZ (wd 157 rfl)) (mvT hZ (wd 158 rfl)) (mvT hZ (wd 159 rfl)) (mvT hZ (wd 160 rfl)) (mvT hZ (wd 161 rfl)) (mvT hZ (wd 162 rfl)) (mvT hZ (wd 163 rfl)) (mvT hZ (wd 164 rfl)) (by decide) (backOf (W := 0) (ie_1 l Z a0 hw [] a d mc h0 n0 (by omega) A) hZ (wd 165 rfl) (wd 94 rfl) (by decide) (by decide)) q3a q3b q3c (g := (mkF m 32 #[.val (.ref a), .unset] [(.ref a)])) rfl (by rw [hml]; rfl) (Steps.refl _) (argsL := []) (rest := []) (lenOf pd___Z rfl) rfl (Nat.le_of_eq rfl) (hb hby d10_32) (fun _ _ => ⟨rfl, e2, (by decide : 0 + 0 ≤ _), (by decide : 0 + 0 ≤ _)⟩)
  dsimp only [Pt.U, Pt.locs, Pt.cells, Pt.slots] at X3 l3 y3 z3 st3 hQ3
  subst l3 y3 z3
  obtain ⟨rfl, N3q, e3⟩ := hQ3
  have N3 := Fr.app N0 N3q
  refine go_tr (B := (T3.setTop (mkF m 37 #[.val (.ref a), .unset] [(.int (0 : Int32))]))) (st3) ?_
  refine go_of (B := (T3.setTop (mkF m 45 #[.val (.ref a), .unset] [(.ref a)]))) (fun _ kk => XS.ifYes X3.here hx rfl (pc0 := 37) (pc' := 44) rfl (hb hby d10_37) rfl ((if0 _ _).trans (teq (by decide : (0 : Int32) = (0 : Int32))).1) (by decide) (by decide) (XS.aloadN X3.here hx rfl (hb hby d10_44) rfl rfl kk)) ?_
  obtain ⟨cq4, kq4, q4a, q4b, q4c⟩ := isOf hZ e3 A.1
  obtain ⟨_, _, ⟨T4, L4, k4, n4⟩, -, X4, ⟨Lc4, hQ4, l4, y4, z4⟩, st4⟩ := X3.interfaceBack hx (xi := MN18) (y := MN14) hown (mvT hZ (wd 166 rfl)) (mvT hZ (wd 167 rfl)) (mvT hZ (wd 168 rfl)) (mvT hZ (wd 169 rfl)) (mvT hZ (wd 170 rfl)) (mvT hZ (wd 171 rfl)) (mvT hZ (wd 172 rfl)) (mvT hZ (wd 164 rfl)) (by decide) (backOf (W := 0) (toa_1 l Z a0 hw [] a d mc kD x0 mr h0 n0 (by omega) A M VD Ix0 ED) hZ (wd 173 rfl) (wd 94 rfl) (by decide) (by decide)) q4a q4b q4c (g := (mkF m 45 #[.val (.ref a), .unset] [(.ref a)])) rfl (by rw [hml]; rfl) (Steps.refl _) (argsL := []) (rest := []) (lenOf pd____Ljava_lang_Object_ rfl) rfl (Nat.le_of_eq rfl) (hb hby d10_45) (fun _ _ => ⟨rfl, e3, (by decide : 0 + 1 ≤ _), (by decide : 0 + 1 ≤ _)⟩)
  dsimp only [Pt.U, Pt.locs, Pt.cells, Pt.slots] at X4 l4 y4 z4 st4 hQ4
  subst l4 y4 z4
  obtain ⟨b4, k4, rfl, N4q, lo4, K4, V4⟩ := hQ4
  have lo4 := own_nle lo4
  have N4 := Fr.app N3 N4q
  have hi4 := own_nlt (V4.lt)
  have sz4 := K4.1
  refine go_tr (B := (T4.setTop (mkF m 50 #[.val (.ref a), .unset] [(.ref b4)]))) (st4) ?_
  have cf_5 := (O.keep K4 all0)
  obtain ⟨_, _, ⟨T6, L6, k6, n6⟩, -, X6, ⟨Lc6, hQ6, l6, y6, z6⟩, st6⟩ := Jvm.LawKit.callS X4 hx (y := MN30) hown (mvT hZ (wd 196 rfl)) (mvT hZ (wd 197 rfl)) (mvT hZ (wd 51 rfl)) (mvT hZ (wd 198 rfl)) (by decide) (backOf (W := 0) (loa_1 l Z a0 hw [] b4 k4 x0 wM T4.heap n0 (by omega) cf_5 SM V4) hZ (wd 198 rfl) (wd 51 rfl) (by decide) (by decide)) (g := (mkF m 50 #[.val (.ref a), .unset] [(.ref b4)])) rfl (by rw [hml]; rfl) (argsL := [(.ref b4)]) (rest := []) (lenOf pd___Ljava_lang_Object__Ljava_util_List_ rfl) rfl (Nat.le_of_eq rfl) (hb hby d10_50) (fun _ _ => ⟨rfl, rfl, (by decide : 1 + 1 ≤ _), (by decide : 1 + 2 ≤ _)⟩)
  dsimp only [Pt.U, Pt.locs, Pt.cells, Pt.slots] at X6 l6 y6 z6 st6 hQ6
  subst l6 y6 z6
  obtain ⟨b6, rfl, N6q, lo6, K6, A6⟩ := hQ6
  have lo6 := own_nle lo6
  have N6 := Fr.app N4 N6q
  have hi6 := own_nlt (A6.1.lt)
  have sz6 := K6.1
  refine go_of (B := (T6.setTop (mkF m 53 #[.val (.ref a), .unset] [(.ref b6)]))) (st6) ?_
  refine go_end X6 (v := some (.ref b6)) (fun h => by rw [Bd.returns] at h; cases h) Bd.notSynchronized (by decide) (by decide) (Q := (Q_lc_1 Z a d mc kD x0 mr wM h0 n0)) ?_ (fun fs hr => own_retA X6 hx Bd.returns rfl rfl (hb hby d10_53) hr)
  unfold Q_lc_1
  exact ⟨b6, rfl, N6, by omega, (((Keep.refl h0 []).trans K4 all0).trans K6 all0), ⟨A6.1, A6.2.1, A6.2.2⟩⟩
def Q_co_1 (Z : State) (a : Addr) (d : Addr) (mc : Int32) (kD : ClassId) (x0 : Addr) (mr : Addr) (wM : Addr) (h0 : Heap) (n0 : Nat) (v : Option Value) (h : Heap) (L : List Loc) : Prop := ∃ (t : Addr), v = some (.ref t) ∧ Fr n0 L ∧ h0.size ≤ t ∧ Keep h0 h [] ∧ L2 Z h t x0 wM
theorem ef_co_1 (m : MethodId) (a : Addr)  : entryFrame m #[(.ref a)] 1 = mkF m 0 #[.val (.ref a)] [] := by first | (simp [entryFrame, mkF, argsToLocals, Value.category]; done) | rfl
theorem co_1 (l : Launch) (Z : State) (a0 : Array Value) (hw : TW a0 Z) (ws : List Cond) (a : Addr) (d : Addr) (mc : Int32) (kD : ClassId) (x0 : Addr) (mr : Addr) (wM : Addr) (h0 : Heap) (n0 : Nat) (Z0 : n0 ≤ h0.size) (O : Old Z n0 h0) (SM : Sta Z Z.heap "java/util/ImmutableCollections" "EMPTY" "Ljava/lang/Object;" (.ref wM)) (A : AL Z h0 a mc d 1) (M : own_Mir Z "[Ljava/lang/Object;" mr) (VD : Arv Z h0 d kD (.object "java/lang/Object") 10 [.ref x0, .null, .null, .null, .null, .null, .null, .null, .null, .null] .null) (Ix0 : Ins Z h0 x0 "java/lang/Object" true) (ED : Exa Z h0 d "[Ljava/lang/Object;") :
    own_MF l Z MN26 jdk_40_method_48_code 1 (some (.object "java/util/List")) ws (own_R 7 2 3 88) #[(.ref a)] h0 (Q_co_1 Z a d mc kD x0 mr wM h0 n0) := by
  have wd := @own_wd _ _ hw
  refine MetFree.of_bodySF (plainFor_of_name pn_java_util_List) hisR ?_
  intro p e s m args below meth c s₁ Bd hml0 hP hK
  obtain ⟨rfl, hZ, hh⟩ := hP
  have hx := Bd.exec
  have hby := Bd.bytes
  have hml : c.maxLocals = 1 := hml0
  have hown : s.vm.findClass "java/util/List" = some m.cls := findClass_of_methodNamed Bd.named
  have hnm := (name_of_methodNamed Bd.named Bd.method).1
  have X0 : Stand p l e (own_R 7 2 3 88) s m #[(.ref a)] below meth c s₁ [] 0 0 := Stand.of_body Bd
  have e0 : s₁.heap = h0 := by rw [← hh, Bd.state]; rfl
  have N0 := Fr.nil n0
  refine go_of (A := s₁.setTop (entryFrame m #[(.ref a)] 1)) (B := s₁.setTop (mkF m 0 #[.val (.ref a)] [])) (fun _ kk' => castTop (ef_co_1 m a) kk') ?_
  refine go_of (B := (s₁.setTop (mkF m 1 #[.val (.ref a)] [(.ref a)]))) (fun _ kk => XS.aloadN X0.here hx rfl (hb hby d9_0) rfl rfl kk) ?_
  obtain ⟨_, _, ⟨T1, L1, k1, n1⟩, -, X1, ⟨Lc1, hQ1, l1, y1, z1⟩, st1⟩ := Jvm.LawKit.callS X0 hx (y := MN19) hown (mvT hZ (wd 67 rfl)) (mvT hZ (wd 68 rfl)) (mvT hZ (wd 54 rfl)) (mvT hZ (wd 69 rfl)) (by decide) (backOf (W := 0) (lc_1 l Z a0 hw [] a d mc kD x0 mr wM h0 n0 (by omega) O SM A M VD Ix0 ED) hZ (wd 69 rfl) (wd 54 rfl) (by decide) (by decide)) (g := (mkF m 1 #[.val (.ref a)] [(.ref a)])) rfl (by rw [hml]; rfl) (argsL := [(.ref a)]) (rest := []) (lenOf pd__Ljava_util_Collection__Ljava_util_List_ rfl) rfl (Nat.le_of_eq rfl) (hb hby d9_1) (fun _ _ => ⟨rfl, e0, (by decide : 0 + 2 ≤ _), (by decide : 0 + 3 ≤ _)⟩)
  dsimp only [Pt.U, Pt.locs, Pt.cells, Pt.slots] at X1 l1 y1 z1 st1 hQ1
  subst l1 y1 z1
  obtain ⟨b1, rfl, N1q, lo1, K1, A1⟩ := hQ1
  have lo1 := own_nle lo1
  have N1 := Fr.app N0 N1q
  have hi1 := own_nlt (A1.1.lt)
  have sz1 := K1.1
  refine go_of (B := (T1.setTop (mkF m 4 #[.val (.ref a)] [(.ref b1)]))) (st1) ?_
  refine go_end X1 (v := some (.ref b1)) (fun h => by rw [Bd.returns] at h; cases h) Bd.notSynchronized (by decide) (by decide) (Q := (Q_co_1 Z a d mc kD x0 mr wM h0 n0)) ?_ (fun fs hr => own_retA X1 hx Bd.returns rfl rfl (hb hby d9_4) hr)
  unfold Q_co_1
  exact ⟨b1, rfl, N1, by omega, ((Keep.refl h0 []).trans K1 all0), ⟨A1.1, A1.2.1, A1.2.2⟩⟩
theorem d30_0 : decode jdk_44_method_4_code 0 = .ok (.iconst 0, 1) := by decide +kernel
theorem d30_1 : decode jdk_44_method_4_code 1 = .ok (.ireturn, 1) := by decide +kernel
def Q_li_1 (Z : State) (a : Addr) (x0 : Addr) (wM : Addr) (h0 : Heap) (n0 : Nat) (v : Option Value) (h : Heap) (L : List Loc) : Prop := v = some (.int 0) ∧ Fr n0 L ∧ h = h0
theorem ef_li_1 (m : MethodId) (a : Addr)  : entryFrame m #[(.ref a)] 1 = mkF m 0 #[.val (.ref a)] [] := by first | (simp [entryFrame, mkF, argsToLocals, Value.category]; done) | rfl
theorem li_1 (l : Launch) (Z : State) (a0 : Array Value) (hw : TW a0 Z) (ws : List Cond) (a : Addr) (x0 : Addr) (wM : Addr) (h0 : Heap) (n0 : Nat) (Z0 : n0 ≤ h0.size) (O : Old Z n0 h0) (SM : Sta Z Z.heap "java/util/ImmutableCollections" "EMPTY" "Ljava/lang/Object;" (.ref wM)) (A : L2 Z h0 a x0 wM) :
    own_MF l Z MN22 jdk_44_method_4_code 1 (some .boolean) ws (own_R 0 0 0 0) #[(.ref a)] h0 (Q_li_1 Z a x0 wM h0 n0) := by
  have wd := @own_wd _ _ hw
  refine MetFree.of_bodySF (plainFor_of_name pn_java_util_ImmutableCollections_List12) hisR ?_
  intro p e s m args below meth c s₁ Bd hml0 hP hK
  obtain ⟨rfl, hZ, hh⟩ := hP
  have hx := Bd.exec
  have hby := Bd.bytes
  have hml : c.maxLocals = 1 := hml0
  have hown : s.vm.findClass "java/util/ImmutableCollections$List12" = some m.cls := findClass_of_methodNamed Bd.named
  have hnm := (name_of_methodNamed Bd.named Bd.method).1
  have X0 : Stand p l e (own_R 0 0 0 0) s m #[(.ref a)] below meth c s₁ [] 0 0 := Stand.of_body Bd
  have e0 : s₁.heap = h0 := by rw [← hh, Bd.state]; rfl
  have N0 := Fr.nil n0
  refine go_of (A := s₁.setTop (entryFrame m #[(.ref a)] 1)) (B := s₁.setTop (mkF m 0 #[.val (.ref a)] [])) (fun _ kk' => castTop (ef_li_1 m a) kk') ?_
  refine go_of (B := (s₁.setTop (mkF m 1 #[.val (.ref a)] [(.int (0 : Int32))]))) (fun _ kk => XS.iconst X0.here hx rfl (hb hby d30_0) kk) ?_
  refine go_end X0 (v := some (.int (nar .boolean (0 : Int32)))) (fun h => by rw [Bd.returns] at h; cases h) Bd.notSynchronized (by decide) (by decide) (Q := (Q_li_1 Z a x0 wM h0 n0)) ?_ (fun fs hr => retN X0 hx (t := .boolean) Bd.returns (by simp) (hb hby d30_1) hr)
  unfold Q_li_1
  try rw [e0]
  exact ⟨rfl, N0, rfl⟩
theorem d31_0 : decode jdk_44_method_3_code 0 = .ok (.aload_n 0, 1) := by decide +kernel
theorem d31_1 : decode jdk_44_method_3_code 1 = .ok (.getfield 24, 3) := by decide +kernel
theorem d31_4 : decode jdk_44_method_3_code 4 = .ok (.getstatic 19, 3) := by decide +kernel
theorem d31_7 : decode jdk_44_method_3_code 7 = .ok (.if_acmp .eq 7, 3) := by decide +kernel
theorem d31_14 : decode jdk_44_method_3_code 14 = .ok (.iconst 1, 1) := by decide +kernel
theorem d31_15 : decode jdk_44_method_3_code 15 = .ok (.ireturn, 1) := by decide +kernel
def Q_ls_1 (Z : State) (a : Addr) (x0 : Addr) (wM : Addr) (h0 : Heap) (n0 : Nat) (v : Option Value) (h : Heap) (L : List Loc) : Prop := v = some (.int 1) ∧ Fr n0 L ∧ h = h0
theorem ef_ls_1 (m : MethodId) (a : Addr)  : entryFrame m #[(.ref a)] 1 = mkF m 0 #[.val (.ref a)] [] := by first | (simp [entryFrame, mkF, argsToLocals, Value.category]; done) | rfl
theorem ls_1 (l : Launch) (Z : State) (a0 : Array Value) (hw : TW a0 Z) (ws : List Cond) (a : Addr) (x0 : Addr) (wM : Addr) (h0 : Heap) (n0 : Nat) (Z0 : n0 ≤ h0.size) (O : Old Z n0 h0) (SM : Sta Z Z.heap "java/util/ImmutableCollections" "EMPTY" "Ljava/lang/Object;" (.ref wM)) (A : L2 Z h0 a x0 wM) :
    own_MF l Z MN23 jdk_44_method_3_code 1 (some .int) ws (own_R 0 0 0 0) #[(.ref a)] h0 (Q_ls_1 Z a x0 wM h0 n0) := by
  have wd := @own_wd _ _ hw
  refine MetFree.of_bodySF (plainFor_of_name pn_java_util_ImmutableCollections_List12) hisR ?_
  intro p e s m args below meth c s₁ Bd hml0 hP hK
  obtain ⟨rfl, hZ, hh⟩ := hP
  have hx := Bd.exec
  have hby := Bd.bytes
  have hml : c.maxLocals = 1 := hml0
  have hown : s.vm.findClass "java/util/ImmutableCollections$List12" = some m.cls := findClass_of_methodNamed Bd.named
  have hnm := (name_of_methodNamed Bd.named Bd.method).1
  have X0 : Stand p l e (own_R 0 0 0 0) s m #[(.ref a)] below meth c s₁ [] 0 0 := Stand.of_body Bd
  have e0 : s₁.heap = h0 := by rw [← hh, Bd.state]; rfl
  have N0 := Fr.nil n0
  refine go_of (A := s₁.setTop (entryFrame m #[(.ref a)] 1)) (B := s₁.setTop (mkF m 0 #[.val (.ref a)] [])) (fun _ kk' => castTop (ef_ls_1 m a) kk') ?_
  refine go_of (B := (s₁.setTop (mkF m 1 #[.val (.ref a)] [(.ref a)]))) (fun _ kk => XS.aloadN X0.here hx rfl (hb hby d31_0) rfl rfl kk) ?_
  obtain ⟨T1, X1, e1, st1⟩ := getF X0 hx hZ hown (host := "") (Or.inl (wd 226 rfl)) Via.refl e0 A.2.2 (g := (mkF m 1 #[.val (.ref a)] [(.ref a)])) rfl rfl (hb hby d31_1)
  refine go_of (B := (T1.setTop (mkF m 4 #[.val (.ref a)] [(.ref wM)]))) (st1) ?_
  obtain ⟨T2, X2, e2, st2⟩ := getS2 X1 hx hZ hown (Or.inr (wd 225 rfl)) Via.refl e1 (SM.ext O.2) (g := (mkF m 4 #[.val (.ref a)] [(.ref wM)])) rfl (hb hby d31_4)
  refine go_of (B := (T2.setTop (mkF m 7 #[.val (.ref a)] [(.ref wM), (.ref wM)]))) (st2) ?_
  refine go_of (B := (T2.setTop (mkF m 15 #[.val (.ref a)] [(.int (1 : Int32))]))) (fun _ kk => Jvm.RoadKit.acmp (g := (mkF m 7 #[.val (.ref a)] [(.ref wM), (.ref wM)])) X2 hx rfl rfl rfl (pc0 := 7) (pc' := 14) (same := true) rfl (hb hby d31_7) rfl (decide_eq_true rfl) (by decide) (by decide) (XS.iconst X2.here hx rfl (hb hby d31_14) kk)) ?_
  refine go_end X2 (v := some (.int (1 : Int32))) (fun h => by rw [Bd.returns] at h; cases h) Bd.notSynchronized (by decide) (by decide) (Q := (Q_ls_1 Z a x0 wM h0 n0)) ?_ (fun fs hr => own_retI X2 hx Bd.returns (hb hby d31_15) hr)
  unfold Q_ls_1
  try rw [e2]
  exact ⟨rfl, N0, rfl⟩
theorem d32_0 : decode jdk_44_method_5_code 0 = .ok (.iload_n 1, 1) := by decide +kernel
theorem d32_1 : decode jdk_44_method_5_code 1 = .ok (.ifCond .ne 8, 3) := by decide +kernel
theorem d32_4 : decode jdk_44_method_5_code 4 = .ok (.aload_n 0, 1) := by decide +kernel
theorem d32_5 : decode jdk_44_method_5_code 5 = .ok (.getfield 13, 3) := by decide +kernel
theorem d32_8 : decode jdk_44_method_5_code 8 = .ok (.areturn, 1) := by decide +kernel
def Q_lg_1 (Z : State) (a : Addr) (x0 : Addr) (wM : Addr) (h0 : Heap) (n0 : Nat) (v : Option Value) (h : Heap) (L : List Loc) : Prop := v = some (.ref x0) ∧ Fr n0 L ∧ h = h0
theorem ef_lg_1 (m : MethodId) (a : Addr)  : entryFrame m #[(.ref a), (.int (0 : Int32))] 2 = mkF m 0 #[.val (.ref a), .val (.int (0 : Int32))] [] := by first | (simp [entryFrame, mkF, argsToLocals, Value.category]; done) | rfl
theorem lg_1 (l : Launch) (Z : State) (a0 : Array Value) (hw : TW a0 Z) (ws : List Cond) (a : Addr) (x0 : Addr) (wM : Addr) (h0 : Heap) (n0 : Nat) (Z0 : n0 ≤ h0.size) (O : Old Z n0 h0) (SM : Sta Z Z.heap "java/util/ImmutableCollections" "EMPTY" "Ljava/lang/Object;" (.ref wM)) (A : L2 Z h0 a x0 wM) :
    own_MF l Z MN21 jdk_44_method_5_code 2 (some (.object "java/lang/Object")) ws (own_R 0 0 0 0) #[(.ref a), (.int (0 : Int32))] h0 (Q_lg_1 Z a x0 wM h0 n0) := by
  have wd := @own_wd _ _ hw
  refine MetFree.of_bodySF (plainFor_of_name pn_java_util_ImmutableCollections_List12) hisR ?_
  intro p e s m args below meth c s₁ Bd hml0 hP hK
  obtain ⟨rfl, hZ, hh⟩ := hP
  have hx := Bd.exec
  have hby := Bd.bytes
  have hml : c.maxLocals = 2 := hml0
  have hown : s.vm.findClass "java/util/ImmutableCollections$List12" = some m.cls := findClass_of_methodNamed Bd.named
  have hnm := (name_of_methodNamed Bd.named Bd.method).1
  have X0 : Stand p l e (own_R 0 0 0 0) s m #[(.ref a), (.int (0 : Int32))] below meth c s₁ [] 0 0 := Stand.of_body Bd
  have e0 : s₁.heap = h0 := by rw [← hh, Bd.state]; rfl
  have N0 := Fr.nil n0
  refine go_of (A := s₁.setTop (entryFrame m #[(.ref a), (.int (0 : Int32))] 2)) (B := s₁.setTop (mkF m 0 #[.val (.ref a), .val (.int (0 : Int32))] [])) (fun _ kk' => castTop (ef_lg_1 m a) kk') ?_
  refine go_of (B := (s₁.setTop (mkF m 5 #[.val (.ref a), .val (.int (0 : Int32))] [(.ref a)]))) (fun _ kk => XS.iloadN X0.here hx rfl (hb hby d32_0) rfl (XS.ifNo X0.here hx rfl (hb hby d32_1) rfl ((if0 _ _).trans (teq (by decide : (0 : Int32) = (0 : Int32))).2) (XS.aloadN X0.here hx rfl (hb hby d32_4) rfl rfl kk))) ?_
  obtain ⟨T1, X1, e1, st1⟩ := getF X0 hx hZ hown (host := "") (Or.inl (wd 223 rfl)) Via.refl e0 A.2.1 (g := (mkF m 5 #[.val (.ref a), .val (.int (0 : Int32))] [(.ref a)])) rfl rfl (hb hby d32_5)
  refine go_of (B := (T1.setTop (mkF m 8 #[.val (.ref a), .val (.int (0 : Int32))] [(.ref x0)]))) (st1) ?_
  refine go_end X1 (v := some (.ref x0)) (fun h => by rw [Bd.returns] at h; cases h) Bd.notSynchronized (by decide) (by decide) (Q := (Q_lg_1 Z a x0 wM h0 n0)) ?_ (fun fs hr => own_retA X1 hx Bd.returns rfl rfl (hb hby d32_8) hr)
  unfold Q_lg_1
  try rw [e1]
  exact ⟨rfl, N0, rfl⟩
theorem d19_0 : decode prog_28_method_1_code 0 = .ok (.aload_n 0, 1) := by decide +kernel
theorem d19_1 : decode prog_28_method_1_code 1 = .ok (.invokespecial 1, 3) := by decide +kernel
theorem d19_4 : decode prog_28_method_1_code 4 = .ok (.aload_n 1, 1) := by decide +kernel
theorem d19_5 : decode prog_28_method_1_code 5 = .ok (.invokestatic 7, 3) := by decide +kernel
theorem d19_8 : decode prog_28_method_1_code 8 = .ok (.astore_n 1, 1) := by decide +kernel
theorem d19_9 : decode prog_28_method_1_code 9 = .ok (.aload_n 1, 1) := by decide +kernel
theorem d19_10 : decode prog_28_method_1_code 10 = .ok (.invokeinterface 13 1, 5) := by decide +kernel
theorem d19_15 : decode prog_28_method_1_code 15 = .ok (.ifCond .ne 26, 3) := by decide +kernel
theorem d19_18 : decode prog_28_method_1_code 18 = .ok (.aload_n 1, 1) := by decide +kernel
theorem d19_19 : decode prog_28_method_1_code 19 = .ok (.aload_n 1, 1) := by decide +kernel
theorem d19_20 : decode prog_28_method_1_code 20 = .ok (.invokeinterface 17 1, 5) := by decide +kernel
theorem pd___I : parseMethodDescriptor "()I" = some ⟨[], some .int⟩ := by decide +kernel
theorem d19_25 : decode prog_28_method_1_code 25 = .ok (.iconst 1, 1) := by decide +kernel
theorem d19_26 : decode prog_28_method_1_code 26 = .ok (.isub, 1) := by decide +kernel
theorem d19_27 : decode prog_28_method_1_code 27 = .ok (.invokeinterface 21 2, 5) := by decide +kernel
theorem pd__I_Ljava_lang_Object_ : parseMethodDescriptor "(I)Ljava/lang/Object;" = some ⟨[.int], some (.object "java/lang/Object")⟩ := by decide +kernel
theorem d19_32 : decode prog_28_method_1_code 32 = .ok (.checkcast 25, 3) := by decide +kernel
theorem d19_35 : decode prog_28_method_1_code 35 = .ok (.invokevirtual 27, 3) := by decide +kernel
theorem pd___Lcom_example_wombat_wombat_rules_RateLimit_ : parseMethodDescriptor "()Lcom/example/wombat/wombat/rules/RateLimit;" = some ⟨[], some (.object "com/example/wombat/wombat/rules/RateLimit")⟩ := by decide +kernel
theorem d19_38 : decode prog_28_method_1_code 38 = .ok (.ifnonnull 13, 3) := by decide +kernel
theorem d19_51 : decode prog_28_method_1_code 51 = .ok (.aload_n 0, 1) := by decide +kernel
theorem d19_52 : decode prog_28_method_1_code 52 = .ok (.aload_n 1, 1) := by decide +kernel
theorem d19_53 : decode prog_28_method_1_code 53 = .ok (.putfield 38, 3) := by decide +kernel
theorem d19_56 : decode prog_28_method_1_code 56 = .ok (.return_, 1) := by decide +kernel
def Q_lim_1 (Z : State) (a : Addr) (al : Addr) (v0 : Value) (d : Addr) (mc : Int32) (kD : ClassId) (x0 : Addr) (mr : Addr) (wM : Addr) (rl : Addr) (h0 : Heap) (n0 : Nat) (v : Option Value) (h : Heap) (L : List Loc) : Prop := ∃ (t : Addr), v = none ∧ Fr n0 L ∧ h0.size ≤ t ∧ Keep h0 h [a] ∧ Exa Z h a "com/example/wombat/wombat/rules/Limit" ∧ Fld Z h a "com/example/wombat/wombat/rules/Limit" "descriptors" "Ljava/util/List;" (.ref t) ∧ L2 Z h t x0 wM
theorem pn_com_example_wombat_wombat_rules_Limit : plainName "com/example/wombat/wombat/rules/Limit" = true := by first | (simp [plainName, overriddenIn]; done) | decide +kernel
theorem ef_lim_1 (m : MethodId) (a : Addr) (al : Addr)  : entryFrame m #[(.ref a), (.ref al)] 2 = mkF m 0 #[.val (.ref a), .val (.ref al)] [] := by first | (simp [entryFrame, mkF, argsToLocals, Value.category]; done) | rfl
theorem lim_1 (l : Launch) (Z : State) (a0 : Array Value) (hw : TW a0 Z) (ws : List Cond) (a : Addr) (al : Addr) (v0 : Value) (d : Addr) (mc : Int32) (kD : ClassId) (x0 : Addr) (mr : Addr) (wM : Addr) (rl : Addr) (h0 : Heap) (n0 : Nat) (Z0 : n0 ≤ h0.size) (O : Old Z n0 h0) (SM : Sta Z Z.heap "java/util/ImmutableCollections" "EMPTY" "Ljava/lang/Object;" (.ref wM)) (A : AL Z h0 al mc d 1) (M : own_Mir Z "[Ljava/lang/Object;" mr) (VD : Arv Z h0 d kD (.object "java/lang/Object") 10 [.ref x0, .null, .null, .null, .null, .null, .null, .null, .null, .null] .null) (Ix0 : Ins Z h0 x0 "java/lang/Object" true) (ED : Exa Z h0 d "[Ljava/lang/Object;") (Ea : Exa Z h0 a "com/example/wombat/wombat/rules/Limit") (Fa0 : Fld Z h0 a "com/example/wombat/wombat/rules/Limit" "descriptors" "Ljava/util/List;" v0) (g : n0 ≤ a) (Ed : Exa Z h0 x0 "com/example/wombat/wombat/rules/Descriptor") (Fd : Fld Z h0 x0 "com/example/wombat/wombat/rules/Descriptor" "rateLimit" "Lcom/example/wombat/wombat/rules/RateLimit;" (.ref rl)) :
    own_MF l Z MN3 prog_28_method_1_code 2 none ws (own_R 8 2 3 100) #[(.ref a), (.ref al)] h0 (Q_lim_1 Z a al v0 d mc kD x0 mr wM rl h0 n0) := by
  have wd := @own_wd _ _ hw
  refine MetFree.of_bodySF (plainFor_of_name pn_com_example_wombat_wombat_rules_Limit) hisR ?_
  intro p e s m args below meth c s₁ Bd hml0 hP hK
  obtain ⟨rfl, hZ, hh⟩ := hP
  have hx := Bd.exec
  have hby := Bd.bytes
  have hml : c.maxLocals = 2 := hml0
  have hown : s.vm.findClass "com/example/wombat/wombat/rules/Limit" = some m.cls := findClass_of_methodNamed Bd.named
  have hnm := (name_of_methodNamed Bd.named Bd.method).1
  have X0 : Stand p l e (own_R 8 2 3 100) s m #[(.ref a), (.ref al)] below meth c s₁ [] 0 0 := Stand.of_body Bd
  have e0 : s₁.heap = h0 := by rw [← hh, Bd.state]; rfl
  have N0 := Fr.nil n0
  have lta := own_nlt (Ea.lt)
  have lta' := own_nlt (A.1.lt)
  have ltx := own_nlt (Ed.lt)
  refine go_of (A := s₁.setTop (entryFrame m #[(.ref a), (.ref al)] 2)) (B := s₁.setTop (mkF m 0 #[.val (.ref a), .val (.ref al)] [])) (fun _ kk' => castTop (ef_lim_1 m a al) kk') ?_
  refine go_of (B := (s₁.setTop (mkF m 1 #[.val (.ref a), .val (.ref al)] [(.ref a)]))) (fun _ kk => XS.aloadN X0.here hx rfl (hb hby d19_0) rfl rfl kk) ?_
  obtain ⟨_, _, ⟨T1, L1, k1, n1⟩, -, X1, ⟨Lc1, hQ1, l1, y1, z1⟩, st1⟩ := X0.specialBack hx (y := MN8) rfl hown (mvT hZ (wd 153 rfl)) (mvT hZ (wd 16 rfl)) (mvT hZ (wd 19 rfl)) (by decide) (backOf (W := 0) (rm3 l Z a0 hw [] a h0 n0 (by omega)) hZ (wd 19 rfl) (wd 18 rfl) (by decide) (by decide)) (g := (mkF m 1 #[.val (.ref a), .val (.ref al)] [(.ref a)])) rfl (by rw [hml]; rfl) (Steps.refl _) (a := a) (argsL := []) (rest := []) (lenOf pd___V rfl) rfl (Nat.le_of_eq rfl) (hb hby d19_1) (fun _ _ => ⟨rfl, e0, (by decide : 0 + 0 ≤ _), (by decide : 0 + 0 ≤ _)⟩)
  dsimp only [Pt.U, Pt.locs, Pt.cells, Pt.slots] at X1 l1 y1 z1 st1 hQ1
  subst l1 y1 z1
  obtain ⟨rfl, N1q, e1⟩ := hQ1
  have N1 := Fr.app N0 N1q
  refine go_tr (B := (T1.setTop (mkF m 4 #[.val (.ref a), .val (.ref al)] []))) (st1) ?_
  refine go_of (B := (T1.setTop (mkF m 5 #[.val (.ref a), .val (.ref al)] [(.ref al)]))) (fun _ kk => XS.aloadN X1.here hx rfl (hb hby d19_4) rfl rfl kk) ?_
  obtain ⟨_, _, ⟨T2, L2, k2, n2⟩, -, X2, ⟨Lc2, hQ2, l2, y2, z2⟩, st2⟩ := Jvm.LawKit.callS X1 hx (y := MN26) hown (mvT hZ (wd 154 rfl)) (mvT hZ (wd 65 rfl)) (mvT hZ (wd 51 rfl)) (mvT hZ (wd 66 rfl)) (by decide) (backOf (W := 0) (co_1 l Z a0 hw [] al d mc kD x0 mr wM h0 n0 (by omega) O SM A M VD Ix0 ED) hZ (wd 66 rfl) (wd 51 rfl) (by decide) (by decide)) (g := (mkF m 5 #[.val (.ref a), .val (.ref al)] [(.ref al)])) rfl (by rw [hml]; rfl) (argsL := [(.ref al)]) (rest := []) (lenOf pd__Ljava_util_Collection__Ljava_util_List_ rfl) rfl (Nat.le_of_eq rfl) (hb hby d19_5) (fun _ _ => ⟨rfl, e1, (by decide : 0 + 2 ≤ _), (by decide : 0 + 3 ≤ _)⟩)
  dsimp only [Pt.U, Pt.locs, Pt.cells, Pt.slots] at X2 l2 y2 z2 st2 hQ2
  subst l2 y2 z2
  obtain ⟨b2, rfl, N2q, lo2, K2, A2⟩ := hQ2
  have lo2 := own_nle lo2
  have N2 := Fr.app N1 N2q
  have hi2 := own_nlt (A2.1.lt)
  have sz2 := K2.1
  refine go_of (B := (T2.setTop (mkF m 8 #[.val (.ref a), .val (.ref al)] [(.ref b2)]))) (st2) ?_
  refine go_of (B := (T2.setTop (mkF m 10 #[.val (.ref a), .val (.ref b2)] [(.ref b2)]))) (fun _ kk => XS.astoreN X2.here hx rfl (hb hby d19_8) rfl rfl rfl (XS.aloadN X2.here hx rfl (hb hby d19_9) rfl rfl kk)) ?_
  have cf_3 := (O.keep K2 all0)
  obtain ⟨cq4, kq4, q4a, q4b, q4c⟩ := isOf hZ rfl A2.1
  obtain ⟨_, _, ⟨T4, L4, k4, n4⟩, -, X4, ⟨Lc4, hQ4, l4, y4, z4⟩, st4⟩ := X2.interfaceBack hx (xi := MN28) (y := MN22) hown (mvT hZ (wd 228 rfl)) (mvT hZ (wd 229 rfl)) (mvT hZ (wd 230 rfl)) (mvT hZ (wd 231 rfl)) (mvT hZ (wd 232 rfl)) (mvT hZ (wd 233 rfl)) (mvT hZ (wd 234 rfl)) (mvT hZ (wd 235 rfl)) (by decide) (backOf (W := 0) (li_1 l Z a0 hw [] b2 x0 wM T2.heap n0 (by omega) cf_3 SM ⟨A2.1, A2.2.1, A2.2.2⟩) hZ (wd 236 rfl) (wd 201 rfl) (by decide) (by decide)) q4a q4b q4c (g := (mkF m 10 #[.val (.ref a), .val (.ref b2)] [(.ref b2)])) rfl (by rw [hml]; rfl) (Steps.refl _) (argsL := []) (rest := []) (lenOf pd___Z rfl) rfl (Nat.le_of_eq rfl) (hb hby d19_10) (fun _ _ => ⟨rfl, rfl, (by decide : 2 + 0 ≤ _), (by decide : 3 + 0 ≤ _)⟩)
  dsimp only [Pt.U, Pt.locs, Pt.cells, Pt.slots] at X4 l4 y4 z4 st4 hQ4
  subst l4 y4 z4
  obtain ⟨rfl, N4q, e4⟩ := hQ4
  have N4 := Fr.app N2 N4q
  refine go_tr (B := (T4.setTop (mkF m 15 #[.val (.ref a), .val (.ref b2)] [(.int (0 : Int32))]))) (st4) ?_
  refine go_of (B := (T4.setTop (mkF m 20 #[.val (.ref a), .val (.ref b2)] [(.ref b2), (.ref b2)]))) (fun _ kk => XS.ifNo X4.here hx rfl (hb hby d19_15) rfl ((if0 _ _).trans (teq (by decide : (0 : Int32) = (0 : Int32))).2) (XS.aloadN X4.here hx rfl (hb hby d19_18) rfl rfl (XS.aloadN X4.here hx rfl (hb hby d19_19) rfl rfl kk))) ?_
  obtain ⟨cq5, kq5, q5a, q5b, q5c⟩ := isOf hZ e4 A2.1
  obtain ⟨_, _, ⟨T5, L5, k5, n5⟩, -, X5, ⟨Lc5, hQ5, l5, y5, z5⟩, st5⟩ := X4.interfaceBack hx (xi := MN31) (y := MN23) hown (mvT hZ (wd 237 rfl)) (mvT hZ (wd 238 rfl)) (mvT hZ (wd 239 rfl)) (mvT hZ (wd 240 rfl)) (mvT hZ (wd 241 rfl)) (mvT hZ (wd 242 rfl)) (mvT hZ (wd 243 rfl)) (mvT hZ (wd 235 rfl)) (by decide) (backOf (W := 1) (ls_1 l Z a0 hw [] b2 x0 wM T2.heap n0 (by omega) cf_3 SM ⟨A2.1, A2.2.1, A2.2.2⟩) hZ (wd 244 rfl) (wd 201 rfl) (by decide) (by decide)) q5a q5b q5c (g := (mkF m 20 #[.val (.ref a), .val (.ref b2)] [(.ref b2), (.ref b2)])) rfl (by rw [hml]; rfl) (Steps.refl _) (argsL := []) (rest := [(.ref b2)]) (lenOf pd___I rfl) rfl (Nat.le_of_eq rfl) (hb hby d19_20) (fun _ _ => ⟨rfl, e4, (by decide : 2 + 0 ≤ _), (by decide : 3 + 0 ≤ _)⟩)
  dsimp only [Pt.U, Pt.locs, Pt.cells, Pt.slots] at X5 l5 y5 z5 st5 hQ5
  subst l5 y5 z5
  obtain ⟨rfl, N5q, e5⟩ := hQ5
  have N5 := Fr.app N4 N5q
  refine go_tr (B := (T5.setTop (mkF m 25 #[.val (.ref a), .val (.ref b2)] [(.int (1 : Int32)), (.ref b2)]))) (st5) ?_
  refine go_of (B := (T5.setTop (mkF m 27 #[.val (.ref a), .val (.ref b2)] [(.int (0 : Int32)), (.ref b2)]))) (fun _ kk => XS.iconst X5.here hx rfl (hb hby d19_25) (XS.isub X5.here hx rfl (hb hby d19_26) rfl kk)) ?_
  obtain ⟨cq6, kq6, q6a, q6b, q6c⟩ := isOf hZ e5 A2.1
  obtain ⟨_, _, ⟨T6, L6, k6, n6⟩, -, X6, ⟨Lc6, hQ6, l6, y6, z6⟩, st6⟩ := X5.interfaceBack hx (xi := MN27) (y := MN21) hown (mvT hZ (wd 245 rfl)) (mvT hZ (wd 246 rfl)) (mvT hZ (wd 247 rfl)) (mvT hZ (wd 248 rfl)) (mvT hZ (wd 249 rfl)) (mvT hZ (wd 250 rfl)) (mvT hZ (wd 251 rfl)) (mvT hZ (wd 235 rfl)) (by decide) (backOf (W := 0) (lg_1 l Z a0 hw [] b2 x0 wM T2.heap n0 (by omega) cf_3 SM ⟨A2.1, A2.2.1, A2.2.2⟩) hZ (wd 252 rfl) (wd 201 rfl) (by decide) (by decide)) q6a q6b q6c (g := (mkF m 27 #[.val (.ref a), .val (.ref b2)] [(.int (0 : Int32)), (.ref b2)])) rfl (by rw [hml]; rfl) (Steps.refl _) (argsL := [(.int (0 : Int32))]) (rest := []) (lenOf pd__I_Ljava_lang_Object_ rfl) rfl (Nat.le_of_eq rfl) (hb hby d19_27) (fun _ _ => ⟨rfl, e5, (by decide : 2 + 0 ≤ _), (by decide : 3 + 0 ≤ _)⟩)
  dsimp only [Pt.U, Pt.locs, Pt.cells, Pt.slots] at X6 l6 y6 z6 st6 hQ6
  subst l6 y6 z6
  obtain ⟨rfl, N6q, e6⟩ := hQ6
  have N6 := Fr.app N5 N6q
  refine go_tr (B := (T6.setTop (mkF m 32 #[.val (.ref a), .val (.ref b2)] [(.ref x0)]))) (st6) ?_
  have cf_8 := (Ed.keep K2)
  obtain ⟨T7, X7, e7, st7⟩ := castY X6 hx hZ hown (wd 253 rfl) e6 (Ins.self cf_8) (g := (mkF m 32 #[.val (.ref a), .val (.ref b2)] [(.ref x0)])) rfl rfl (hb hby d19_32)
  refine go_of (B := (T7.setTop (mkF m 35 #[.val (.ref a), .val (.ref b2)] [(.ref x0)]))) (st7) ?_
  have cf_9 := (Fd.keep K2 nin0)
  obtain ⟨cq10, kq10, q10a, q10b, q10c⟩ := isOf hZ e7 cf_8
  obtain ⟨_, _, ⟨T10, L10, k10, n10⟩, -, X10, ⟨Lc10, hQ10, l10, y10, z10⟩, st10⟩ := X7.virtualBack hx (y := MN2) (z := MN2) hown (mvT hZ (wd 255 rfl)) (mvT hZ (wd 256 rfl)) (notFace_of_selects (args := #[]) (mvT hZ (wd 258 rfl))) (mvT hZ (wd 258 rfl)) (mvT hZ (wd 257 rfl)) (by decide) (backOf (W := 0) (dsr l Z a0 hw [] x0 rl T2.heap n0 (by omega) cf_9) hZ (wd 259 rfl) (wd 37 rfl) (by decide) (by decide)) q10a q10c (g := (mkF m 35 #[.val (.ref a), .val (.ref b2)] [(.ref x0)])) rfl (by rw [hml]; rfl) (Steps.refl _) (argsL := []) (rest := []) (lenOf pd___Lcom_example_wombat_wombat_rules_RateLimit_ rfl) rfl (Nat.le_of_eq rfl) (hb hby d19_35) (fun _ _ => ⟨rfl, e7, (by decide : 2 + 0 ≤ _), (by decide : 3 + 0 ≤ _)⟩)
  dsimp only [Pt.U, Pt.locs, Pt.cells, Pt.slots] at X10 l10 y10 z10 st10 hQ10
  subst l10 y10 z10
  obtain ⟨rfl, N10q, e10⟩ := hQ10
  have N10 := Fr.app N6 N10q
  refine go_tr (B := (T10.setTop (mkF m 38 #[.val (.ref a), .val (.ref b2)] [(.ref rl)]))) (st10) ?_
  refine go_of (B := (T10.setTop (mkF m 53 #[.val (.ref a), .val (.ref b2)] [(.ref b2), (.ref a)]))) (fun _ kk => XS.ifnonnullYes X10.here hx rfl (pc0 := 38) (pc' := 51) rfl (hb hby d19_38) rfl (by decide) (by decide) (XS.aloadN X10.here hx rfl (hb hby d19_51) rfl rfl (XS.aloadN X10.here hx rfl (hb hby d19_52) rfl rfl kk))) ?_
  have cf_11 := (Ea.keep K2)
  have cf_12 := (Fa0.keep K2 nin0)
  obtain ⟨T13, h13, X13, e13, W13, st13⟩ := putF X10 hx hZ hown (host := "") (Or.inl (wd 260 rfl)) Via.refl e10 cf_12 cf_11 (Or.inr ⟨(wd 261 rfl), rfl, hnm⟩) (wd 148 rfl) (ty := (.object "java/util/List")) (by decide) rfl rfl (g := (mkF m 53 #[.val (.ref a), .val (.ref b2)] [(.ref b2), (.ref a)])) rfl rfl (hb hby d19_53)
  have sz13 := W13.size
  have Fw13 := cf_12.same W13
  have N13 := Fr.snoc X13 N10 (g : n0 ≤ a)
  refine go_of (B := (T13.setTop (mkF m 56 #[.val (.ref a), .val (.ref b2)] []))) (st13) ?_
  have cf_14 := (cf_11.wr W13)
  have cf_15 := (A2.1.wr W13)
  have cf_16 := (A2.2.1.other W13 (Or.inl (by first | omega | exact own_ne (by omega) | exact own_le (by omega))))
  have cf_17 := (A2.2.2.other W13 (Or.inl (by first | omega | exact own_ne (by omega) | exact own_le (by omega))))
  refine go_end X13 (v := none) (fun _ => rfl) Bd.notSynchronized (by decide) (by decide) (Q := (Q_lim_1 Z a al v0 d mc kD x0 mr wM rl h0 n0)) ?_ (fun fs hr => X13.returnOut hx Bd.returns (hb hby d19_56) hr)
  unfold Q_lim_1
  try rw [e13]
  exact ⟨b2, rfl, N13, by omega, (((Keep.refl h0 [a]).trans K2 all0).wr W13 (Or.inl (List.mem_of_getElem? (i := 0) rfl))), cf_14, Fw13, ⟨cf_15, cf_16, cf_17⟩⟩
theorem d34_0 : decode prog_28_method_2_code 0 = .ok (.aload_n 0, 1) := by decide +kernel
theorem d34_1 : decode prog_28_method_2_code 1 = .ok (.getfield 38, 3) := by decide +kernel
theorem d34_4 : decode prog_28_method_2_code 4 = .ok (.aload_n 0, 1) := by decide +kernel
theorem d34_5 : decode prog_28_method_2_code 5 = .ok (.getfield 38, 3) := by decide +kernel
theorem d34_8 : decode prog_28_method_2_code 8 = .ok (.invokeinterface 17 1, 5) := by decide +kernel
theorem d34_13 : decode prog_28_method_2_code 13 = .ok (.iconst 1, 1) := by decide +kernel
theorem d34_14 : decode prog_28_method_2_code 14 = .ok (.isub, 1) := by decide +kernel
theorem d34_15 : decode prog_28_method_2_code 15 = .ok (.invokeinterface 21 2, 5) := by decide +kernel
theorem d34_20 : decode prog_28_method_2_code 20 = .ok (.checkcast 25, 3) := by decide +kernel
theorem d34_23 : decode prog_28_method_2_code 23 = .ok (.invokevirtual 27, 3) := by decide +kernel
theorem d34_26 : decode prog_28_method_2_code 26 = .ok (.areturn, 1) := by decide +kernel
def Q_lr_1 (Z : State) (a : Addr) (t : Addr) (x0 : Addr) (wM : Addr) (rl : Addr) (h0 : Heap) (n0 : Nat) (v : Option Value) (h : Heap) (L : List Loc) : Prop := v = some (.ref rl) ∧ Fr n0 L ∧ h = h0
theorem ef_lr_1 (m : MethodId) (a : Addr)  : entryFrame m #[(.ref a)] 1 = mkF m 0 #[.val (.ref a)] [] := by first | (simp [entryFrame, mkF, argsToLocals, Value.category]; done) | rfl
theorem lr_1 (l : Launch) (Z : State) (a0 : Array Value) (hw : TW a0 Z) (ws : List Cond) (a : Addr) (t : Addr) (x0 : Addr) (wM : Addr) (rl : Addr) (h0 : Heap) (n0 : Nat) (Z0 : n0 ≤ h0.size) (O : Old Z n0 h0) (SM : Sta Z Z.heap "java/util/ImmutableCollections" "EMPTY" "Ljava/lang/Object;" (.ref wM)) (Fl : Fld Z h0 a "com/example/wombat/wombat/rules/Limit" "descriptors" "Ljava/util/List;" (.ref t)) (A : L2 Z h0 t x0 wM) (Ed : Exa Z h0 x0 "com/example/wombat/wombat/rules/Descriptor") (Fd : Fld Z h0 x0 "com/example/wombat/wombat/rules/Descriptor" "rateLimit" "Lcom/example/wombat/wombat/rules/RateLimit;" (.ref rl)) :
    own_MF l Z MN4 prog_28_method_2_code 1 (some (.object "com/example/wombat/wombat/rules/RateLimit")) ws (own_R 1 0 0 13) #[(.ref a)] h0 (Q_lr_1 Z a t x0 wM rl h0 n0) := by
  have wd := @own_wd _ _ hw
  refine MetFree.of_bodySF (plainFor_of_name pn_com_example_wombat_wombat_rules_Limit) hisR ?_
  intro p e s m args below meth c s₁ Bd hml0 hP hK
  obtain ⟨rfl, hZ, hh⟩ := hP
  have hx := Bd.exec
  have hby := Bd.bytes
  have hml : c.maxLocals = 1 := hml0
  have hown : s.vm.findClass "com/example/wombat/wombat/rules/Limit" = some m.cls := findClass_of_methodNamed Bd.named
  have hnm := (name_of_methodNamed Bd.named Bd.method).1
  have X0 : Stand p l e (own_R 1 0 0 13) s m #[(.ref a)] below meth c s₁ [] 0 0 := Stand.of_body Bd
  have e0 : s₁.heap = h0 := by rw [← hh, Bd.state]; rfl
  have N0 := Fr.nil n0
  refine go_of (A := s₁.setTop (entryFrame m #[(.ref a)] 1)) (B := s₁.setTop (mkF m 0 #[.val (.ref a)] [])) (fun _ kk' => castTop (ef_lr_1 m a) kk') ?_
  refine go_of (B := (s₁.setTop (mkF m 1 #[.val (.ref a)] [(.ref a)]))) (fun _ kk => XS.aloadN X0.here hx rfl (hb hby d34_0) rfl rfl kk) ?_
  obtain ⟨T1, X1, e1, st1⟩ := getF X0 hx hZ hown (host := "") (Or.inl (wd 260 rfl)) Via.refl e0 Fl (g := (mkF m 1 #[.val (.ref a)] [(.ref a)])) rfl rfl (hb hby d34_1)
  refine go_of (B := (T1.setTop (mkF m 4 #[.val (.ref a)] [(.ref t)]))) (st1) ?_
  refine go_of (B := (T1.setTop (mkF m 5 #[.val (.ref a)] [(.ref a), (.ref t)]))) (fun _ kk => XS.aloadN X1.here hx rfl (hb hby d34_4) rfl rfl kk) ?_
  obtain ⟨T2, X2, e2, st2⟩ := getF X1 hx hZ hown (host := "") (Or.inl (wd 260 rfl)) Via.refl e1 Fl (g := (mkF m 5 #[.val (.ref a)] [(.ref a), (.ref t)])) rfl rfl (hb hby d34_5)
  refine go_of (B := (T2.setTop (mkF m 8 #[.val (.ref a)] [(.ref t), (.ref t)]))) (st2) ?_
  obtain ⟨cq3, kq3, q3a, q3b, q3c⟩ := isOf hZ e2 A.1
  obtain ⟨_, _, ⟨T3, L3, k3, n3⟩, -, X3, ⟨Lc3, hQ3, l3, y3, z3⟩, st3⟩ := X2.interfaceBack hx (xi := MN31) (y := MN23) hown (mvT hZ (wd 237 rfl)) (mvT hZ (wd 238 rfl)) (mvT hZ (wd 239 rfl)) (mvT hZ (wd 240 rfl)) (mvT hZ (wd 241 rfl)) (mvT hZ (wd 242 rfl)) (mvT hZ (wd 243 rfl)) (mvT hZ (wd 235 rfl)) (by decide) (backOf (W := 1) (ls_1 l Z a0 hw [] t x0 wM h0 n0 (by omega) O SM ⟨A.1, A.2.1, A.2.2⟩) hZ (wd 244 rfl) (wd 201 rfl) (by decide) (by decide)) q3a q3b q3c (g := (mkF m 8 #[.val (.ref a)] [(.ref t), (.ref t)])) rfl (by rw [hml]; rfl) (Steps.refl _) (argsL := []) (rest := [(.ref t)]) (lenOf pd___I rfl) rfl (Nat.le_of_eq rfl) (hb hby d34_8) (fun _ _ => ⟨rfl, e2, (by decide : 0 + 0 ≤ _), (by decide : 0 + 0 ≤ _)⟩)
  dsimp only [Pt.U, Pt.locs, Pt.cells, Pt.slots] at X3 l3 y3 z3 st3 hQ3
  subst l3 y3 z3
  obtain ⟨rfl, N3q, e3⟩ := hQ3
  have N3 := Fr.app N0 N3q
  refine go_tr (B := (T3.setTop (mkF m 13 #[.val (.ref a)] [(.int (1 : Int32)), (.ref t)]))) (st3) ?_
  refine go_of (B := (T3.setTop (mkF m 15 #[.val (.ref a)] [(.int (0 : Int32)), (.ref t)]))) (fun _ kk => XS.iconst X3.here hx rfl (hb hby d34_13) (XS.isub X3.here hx rfl (hb hby d34_14) rfl kk)) ?_
  obtain ⟨cq4, kq4, q4a, q4b, q4c⟩ := isOf hZ e3 A.1
  obtain ⟨_, _, ⟨T4, L4, k4, n4⟩, -, X4, ⟨Lc4, hQ4, l4, y4, z4⟩, st4⟩ := X3.interfaceBack hx (xi := MN27) (y := MN21) hown (mvT hZ (wd 245 rfl)) (mvT hZ (wd 246 rfl)) (mvT hZ (wd 247 rfl)) (mvT hZ (wd 248 rfl)) (mvT hZ (wd 249 rfl)) (mvT hZ (wd 250 rfl)) (mvT hZ (wd 251 rfl)) (mvT hZ (wd 235 rfl)) (by decide) (backOf (W := 0) (lg_1 l Z a0 hw [] t x0 wM h0 n0 (by omega) O SM ⟨A.1, A.2.1, A.2.2⟩) hZ (wd 252 rfl) (wd 201 rfl) (by decide) (by decide)) q4a q4b q4c (g := (mkF m 15 #[.val (.ref a)] [(.int (0 : Int32)), (.ref t)])) rfl (by rw [hml]; rfl) (Steps.refl _) (argsL := [(.int (0 : Int32))]) (rest := []) (lenOf pd__I_Ljava_lang_Object_ rfl) rfl (Nat.le_of_eq rfl) (hb hby d34_15) (fun _ _ => ⟨rfl, e3, (by decide : 0 + 0 ≤ _), (by decide : 0 + 0 ≤ _)⟩)
  dsimp only [Pt.U, Pt.locs, Pt.cells, Pt.slots] at X4 l4 y4 z4 st4 hQ4
  subst l4 y4 z4
  obtain ⟨rfl, N4q, e4⟩ := hQ4
  have N4 := Fr.app N3 N4q
  refine go_tr (B := (T4.setTop (mkF m 20 #[.val (.ref a)] [(.ref x0)]))) (st4) ?_
  obtain ⟨T5, X5, e5, st5⟩ := castY X4 hx hZ hown (wd 253 rfl) e4 (Ins.self Ed) (g := (mkF m 20 #[.val (.ref a)] [(.ref x0)])) rfl rfl (hb hby d34_20)
  refine go_of (B := (T5.setTop (mkF m 23 #[.val (.ref a)] [(.ref x0)]))) (st5) ?_
  obtain ⟨cq6, kq6, q6a, q6b, q6c⟩ := isOf hZ e5 Ed
  obtain ⟨_, _, ⟨T6, L6, k6, n6⟩, -, X6, ⟨Lc6, hQ6, l6, y6, z6⟩, st6⟩ := X5.virtualBack hx (y := MN2) (z := MN2) hown (mvT hZ (wd 255 rfl)) (mvT hZ (wd 256 rfl)) (notFace_of_selects (args := #[]) (mvT hZ (wd 258 rfl))) (mvT hZ (wd 258 rfl)) (mvT hZ (wd 257 rfl)) (by decide) (backOf (W := 0) (dsr l Z a0 hw [] x0 rl h0 n0 (by omega) Fd) hZ (wd 259 rfl) (wd 37 rfl) (by decide) (by decide)) q6a q6c (g := (mkF m 23 #[.val (.ref a)] [(.ref x0)])) rfl (by rw [hml]; rfl) (Steps.refl _) (argsL := []) (rest := []) (lenOf pd___Lcom_example_wombat_wombat_rules_RateLimit_ rfl) rfl (Nat.le_of_eq rfl) (hb hby d34_23) (fun _ _ => ⟨rfl, e5, (by decide : 0 + 0 ≤ _), (by decide : 0 + 0 ≤ _)⟩)
  dsimp only [Pt.U, Pt.locs, Pt.cells, Pt.slots] at X6 l6 y6 z6 st6 hQ6
  subst l6 y6 z6
  obtain ⟨rfl, N6q, e6⟩ := hQ6
  have N6 := Fr.app N4 N6q
  refine go_tr (B := (T6.setTop (mkF m 26 #[.val (.ref a)] [(.ref rl)]))) (st6) ?_
  refine go_end X6 (v := some (.ref rl)) (fun h => by rw [Bd.returns] at h; cases h) Bd.notSynchronized (by decide) (by decide) (Q := (Q_lr_1 Z a t x0 wM rl h0 n0)) ?_ (fun fs hr => own_retA X6 hx Bd.returns rfl rfl (hb hby d34_26) hr)
  unfold Q_lr_1
  try rw [e6]
  exact ⟨rfl, N6, rfl⟩
def Q_cp3_2 (Z : State) (d : Addr) (mr : Addr) (kD : ClassId) (x0 : Addr) (x1 : Addr) (h0 : Heap) (n0 : Nat) (v : Option Value) (h : Heap) (L : List Loc) : Prop := ∃ (t : Addr) (k : ClassId), v = some (.ref t) ∧ Fr n0 L ∧ h0.size ≤ t ∧ Keep h0 h [] ∧ Arv Z h t k (.object "java/lang/Object") 2 [.ref x0, .ref x1] .null
theorem ef_cp3_2 (m : MethodId) (d : Addr) (mr : Addr)  : entryFrame m #[(.ref d), (.int (2 : Int32)), (.ref mr)] 4 = mkF m 0 #[.val (.ref d), .val (.int (2 : Int32)), .val (.ref mr), .unset] [] := by first | (simp [entryFrame, mkF, argsToLocals, Value.category]; done) | rfl
theorem cp3_2 (l : Launch) (Z : State) (a0 : Array Value) (hw : TW a0 Z) (ws : List Cond) (d : Addr) (mr : Addr) (kD : ClassId) (x0 : Addr) (x1 : Addr) (h0 : Heap) (n0 : Nat) (Z0 : n0 ≤ h0.size) (M : own_Mir Z "[Ljava/lang/Object;" mr) (VD : Arv Z h0 d kD (.object "java/lang/Object") 10 [.ref x0, .ref x1, .null, .null, .null, .null, .null, .null, .null, .null] .null) (Ix0 : Ins Z h0 x0 "java/lang/Object" true) (Ix1 : Ins Z h0 x1 "java/lang/Object" true) :
    own_MF l Z MN16 jdk_65_method_120_code 4 (some (.array (.object "java/lang/Object"))) ws (own_R 1 1 2 18) #[(.ref d), (.int (2 : Int32)), (.ref mr)] h0 (Q_cp3_2 Z d mr kD x0 x1 h0 n0) := by
  have wd := @own_wd _ _ hw
  refine MetFree.of_bodySF (plainFor_of_name pn_java_util_Arrays) hisR ?_
  intro p e s m args below meth c s₁ Bd hml0 hP hK
  obtain ⟨rfl, hZ, hh⟩ := hP
  have hx := Bd.exec
  have hby := Bd.bytes
  have hml : c.maxLocals = 4 := hml0
  have hown : s.vm.findClass "java/util/Arrays" = some m.cls := findClass_of_methodNamed Bd.named
  have hnm := (name_of_methodNamed Bd.named Bd.method).1
  have X0 : Stand p l e (own_R 1 1 2 18) s m #[(.ref d), (.int (2 : Int32)), (.ref mr)] below meth c s₁ [] 0 0 := Stand.of_body Bd
  have e0 : s₁.heap = h0 := by rw [← hh, Bd.state]; rfl
  have N0 := Fr.nil n0
  have ltd := own_nlt (VD.lt)
  refine go_of (A := s₁.setTop (entryFrame m #[(.ref d), (.int (2 : Int32)), (.ref mr)] 4)) (B := s₁.setTop (mkF m 0 #[.val (.ref d), .val (.int (2 : Int32)), .val (.ref mr), .unset] [])) (fun _ kk' => castTop (ef_cp3_2 m d mr) kk') ?_
  refine go_of (B := (s₁.setTop (mkF m 1 #[.val (.ref d), .val (.int (2 : Int32)), .val (.ref mr), .unset] [(.ref mr)]))) (fun _ kk => XS.aloadN X0.here hx rfl (hb hby d23_0) rfl rfl kk) ?_
  obtain ⟨vm1, X1, st1⟩ := X0.ldcMirror hx hown (mvT hZ (wd 187 rfl)) (own_mirT (own_mirS hZ M)) (g := (mkF m 1 #[.val (.ref d), .val (.int (2 : Int32)), .val (.ref mr), .unset] [(.ref mr)])) rfl (hb hby d23_1)
  have e1 : (s₁.setVm vm1).heap = h0 := e0
  refine go_of (B := ((s₁.setVm vm1).setTop (mkF m 3 #[.val (.ref d), .val (.int (2 : Int32)), .val (.ref mr), .unset] [(.ref mr), (.ref mr)]))) (st1) ?_
  refine go_of (B := ((s₁.setVm vm1).setTop (mkF m 7 #[.val (.ref d), .val (.int (2 : Int32)), .val (.ref mr), .unset] [(.int (2 : Int32))]))) (fun _ kk => Jvm.RoadKit.acmp (g := (mkF m 3 #[.val (.ref d), .val (.int (2 : Int32)), .val (.ref mr), .unset] [(.ref mr), (.ref mr)])) X1 hx rfl rfl rfl (pc0 := 3) (pc' := 6) (same := true) rfl (hb hby d23_3) rfl (decide_eq_true rfl) (by decide) (by decide) (XS.iloadN X1.here hx rfl (hb hby d23_6) rfl kk)) ?_
  obtain ⟨T2, h2, k2, X2, e2, E2, A2, O2, st2⟩ := newR X1 hx hZ hown (wd 188 rfl) (wd 145 rfl) e1 (g := (mkF m 7 #[.val (.ref d), .val (.int (2 : Int32)), .val (.ref mr), .unset] [(.int (2 : Int32))])) rfl (hb hby d23_7) rfl (by decide) (cap := 2) (by decide) (by decide) (by decide) (by decide)
  obtain ⟨b2, g2⟩ : ∃ z, z = h0.size := ⟨_, rfl⟩
  rw [← g2] at A2 st2
  have hi2 := own_nlt A2.lt
  have sz2 := E2.1
  have V2 : Arv Z h2 b2 k2 (.object "java/lang/Object") (2 : Int32) [.null, .null] .null := (Arv.new A2 (by decide)).pad (pad_rep [] .null 2)
  refine go_of (B := (T2.setTop (mkF m 10 #[.val (.ref d), .val (.int (2 : Int32)), .val (.ref mr), .unset] [(.ref b2)]))) (st2) ?_
  refine go_of (B := (T2.setTop (mkF m 29 #[.val (.ref d), .val (.int (2 : Int32)), .val (.ref mr), .val (.ref b2)] [(.int (0 : Int32)), (.ref b2), (.int (0 : Int32)), (.ref d)]))) (fun _ kk => XS.goto X2.here hx rfl (pc0 := 10) (pc' := 24) rfl (hb hby d23_10) (by decide) (by decide) (XS.astoreN X2.here hx rfl (hb hby d23_24) rfl rfl rfl (XS.aloadN X2.here hx rfl (hb hby d23_25) rfl rfl (XS.iconst X2.here hx rfl (hb hby d23_26) (XS.aloadN X2.here hx rfl (hb hby d23_27) rfl rfl (XS.iconst X2.here hx rfl (hb hby d23_28) kk)))))) ?_
  refine go_of (B := (T2.setTop (mkF m 30 #[.val (.ref d), .val (.int (2 : Int32)), .val (.ref mr), .val (.ref b2)] [(.ref d), (.int (0 : Int32)), (.ref b2), (.int (0 : Int32)), (.ref d)]))) (fun _ kk => XS.aloadN X2.here hx rfl (hb hby d23_29) rfl rfl kk) ?_
  have cf_3 := (VD.ext E2)
  obtain ⟨cl4, Ar4, q4, Sz4, Nn4, Hh4, G4⟩ := id (cf_3)
  have ln4 := len_of Sz4 Nn4
  refine go_of (B := (T2.setTop (mkF m 31 #[.val (.ref d), .val (.int (2 : Int32)), .val (.ref mr), .val (.ref b2)] [(.int (10 : Int32)), (.int (0 : Int32)), (.ref b2), (.int (0 : Int32)), (.ref d)]))) (fun _ kk => X2.arraylength hx (by rw [e2]; exact Ar4.1) (State.isArrayOf_alike hZ.alike Ar4.2.1) (g := (mkF m 30 #[.val (.ref d), .val (.int (2 : Int32)), .val (.ref mr), .val (.ref b2)] [(.ref d), (.int (0 : Int32)), (.ref b2), (.int (0 : Int32)), (.ref d)])) rfl rfl (hb hby d23_30) _ (by rw [ln4]; exact kk)) ?_
  refine go_of (B := (T2.setTop (mkF m 32 #[.val (.ref d), .val (.int (2 : Int32)), .val (.ref mr), .val (.ref b2)] [(.int (2 : Int32)), (.int (10 : Int32)), (.int (0 : Int32)), (.ref b2), (.int (0 : Int32)), (.ref d)]))) (fun _ kk => XS.iloadN X2.here hx rfl (hb hby d23_31) rfl kk) ?_
  obtain ⟨_, _, ⟨T5, L5, k5, n5⟩, -, X5, ⟨Lc5, hQ5, l5, y5, z5⟩, st5⟩ := Jvm.LawKit.callS X2 hx (y := MN7) hown (mvT hZ (wd 189 rfl)) (mvT hZ (wd 190 rfl)) (mvT hZ (wd 142 rfl)) (mvT hZ (wd 191 rfl)) (by decide) (backOf (W := 4) (mmin l Z a0 hw [] (10 : Int32) (2 : Int32) (2 : Int32) h2 n0 (by omega) (by decide)) hZ (wd 191 rfl) (wd 142 rfl) (by decide) (by decide)) (g := (mkF m 32 #[.val (.ref d), .val (.int (2 : Int32)), .val (.ref mr), .val (.ref b2)] [(.int (2 : Int32)), (.int (10 : Int32)), (.int (0 : Int32)), (.ref b2), (.int (0 : Int32)), (.ref d)])) rfl (by rw [hml]; rfl) (argsL := [(.int (10 : Int32)), (.int (2 : Int32))]) (rest := [(.int (0 : Int32)), (.ref b2), (.int (0 : Int32)), (.ref d)]) (lenOf pd__II_I rfl) rfl (Nat.le_of_eq rfl) (hb hby d23_32) (fun _ _ => ⟨rfl, e2, (by decide : 1 + 0 ≤ _), (by decide : 2 + 0 ≤ _)⟩)
  dsimp only [Pt.U, Pt.locs, Pt.cells, Pt.slots] at X5 l5 y5 z5 st5 hQ5
  subst l5 y5 z5
  obtain ⟨rfl, N5q, e5⟩ := hQ5
  have N5 := Fr.app N0 N5q
  refine go_of (B := (T5.setTop (mkF m 35 #[.val (.ref d), .val (.int (2 : Int32)), .val (.ref mr), .val (.ref b2)] [(.int (2 : Int32)), (.int (0 : Int32)), (.ref b2), (.int (0 : Int32)), (.ref d)]))) (st5) ?_
  obtain ⟨cl6, Ar6, q6, Sz6, Nn6, Hh6, G6⟩ := id (V2)
  have cf_7 := (Ix1.ext E2)
  have cf_8 := (Ix0.ext E2)
  obtain ⟨T9, h9, L9, X9, e9, N9, K9, Vq9, st9⟩ := cpA X5 hx hZ hown (wd 192 rfl) (wd 195 rfl) (wd 193 rfl) (wd 194 rfl) e5 cf_3 V2 (us := [(.ref x0), (.ref x1)]) (Or.inr ⟨rfl, rfl, ⟨Sto.ofV Ar6 q6 O2 cf_8, ⟨Sto.ofV Ar6 q6 O2 cf_7, trivial⟩⟩⟩) (by decide) (by decide) (by decide) (by decide) (by decide) rfl (Nat.le_of_ble_eq_true rfl) N5 ((by first | omega | exact own_ne (by omega) | exact own_le (by omega)) : n0 ≤ b2) (g := (mkF m 35 #[.val (.ref d), .val (.int (2 : Int32)), .val (.ref mr), .val (.ref b2)] [(.int (2 : Int32)), (.int (0 : Int32)), (.ref b2), (.int (0 : Int32)), (.ref d)])) rfl (by rw [hml]; rfl) rfl (hb hby d23_35) (by decide) (W := 0) (Nat.le_of_eq rfl) (by decide)
  have V9 : Arv Z h9 b2 k2 (.object "java/lang/Object") (2 : Int32) [(.ref x0), (.ref x1)] .null := Vq9
  have sz9 := K9.1
  refine go_of (B := (T9.setTop (mkF m 38 #[.val (.ref d), .val (.int (2 : Int32)), .val (.ref mr), .val (.ref b2)] []))) (st9) ?_
  refine go_of (B := (T9.setTop (mkF m 39 #[.val (.ref d), .val (.int (2 : Int32)), .val (.ref mr), .val (.ref b2)] [(.ref b2)]))) (fun _ kk => XS.aloadN X9.here hx rfl (hb hby d23_38) rfl rfl kk) ?_
  refine go_end X9 (v := some (.ref b2)) (fun h => by rw [Bd.returns] at h; cases h) Bd.notSynchronized (by decide) (by decide) (Q := (Q_cp3_2 Z d mr kD x0 x1 h0 n0)) ?_ (fun fs hr => own_retA X9 hx Bd.returns rfl rfl (hb hby d23_39) hr)
  unfold Q_cp3_2
  try rw [e9]
  exact ⟨b2, k2, rfl, N9, by omega, (((Keep.refl h0 []).ext E2).trans K9 (allS (Or.inr (by first | omega | exact own_ne (by omega) | exact own_le (by omega))) all0)), V9⟩
def Q_cp2_2 (Z : State) (d : Addr) (kD : ClassId) (x0 : Addr) (x1 : Addr) (mr : Addr) (h0 : Heap) (n0 : Nat) (v : Option Value) (h : Heap) (L : List Loc) : Prop := ∃ (t : Addr) (k : ClassId), v = some (.ref t) ∧ Fr n0 L ∧ h0.size ≤ t ∧ Keep h0 h [] ∧ Arv Z h t k (.object "java/lang/Object") 2 [.ref x0, .ref x1] .null
theorem ef_cp2_2 (m : MethodId) (d : Addr)  : entryFrame m #[(.ref d), (.int (2 : Int32))] 2 = mkF m 0 #[.val (.ref d), .val (.int (2 : Int32))] [] := by first | (simp [entryFrame, mkF, argsToLocals, Value.category]; done) | rfl
theorem cp2_2 (l : Launch) (Z : State) (a0 : Array Value) (hw : TW a0 Z) (ws : List Cond) (d : Addr) (kD : ClassId) (x0 : Addr) (x1 : Addr) (mr : Addr) (h0 : Heap) (n0 : Nat) (Z0 : n0 ≤ h0.size) (M : own_Mir Z "[Ljava/lang/Object;" mr) (VD : Arv Z h0 d kD (.object "java/lang/Object") 10 [.ref x0, .ref x1, .null, .null, .null, .null, .null, .null, .null, .null] .null) (Ix0 : Ins Z h0 x0 "java/lang/Object" true) (Ix1 : Ins Z h0 x1 "java/lang/Object" true) (ED : Exa Z h0 d "[Ljava/lang/Object;") :
    own_MF l Z MN15 jdk_65_method_119_code 2 (some (.array (.object "java/lang/Object"))) ws (own_R 2 1 2 33) #[(.ref d), (.int (2 : Int32))] h0 (Q_cp2_2 Z d kD x0 x1 mr h0 n0) := by
  have wd := @own_wd _ _ hw
  refine MetFree.of_bodySF (plainFor_of_name pn_java_util_Arrays) hisR ?_
  intro p e s m args below meth c s₁ Bd hml0 hP hK
  obtain ⟨rfl, hZ, hh⟩ := hP
  have hx := Bd.exec
  have hby := Bd.bytes
  have hml : c.maxLocals = 2 := hml0
  have hown : s.vm.findClass "java/util/Arrays" = some m.cls := findClass_of_methodNamed Bd.named
  have hnm := (name_of_methodNamed Bd.named Bd.method).1
  have X0 : Stand p l e (own_R 2 1 2 33) s m #[(.ref d), (.int (2 : Int32))] below meth c s₁ [] 0 0 := Stand.of_body Bd
  have e0 : s₁.heap = h0 := by rw [← hh, Bd.state]; rfl
  have N0 := Fr.nil n0
  refine go_of (A := s₁.setTop (entryFrame m #[(.ref d), (.int (2 : Int32))] 2)) (B := s₁.setTop (mkF m 0 #[.val (.ref d), .val (.int (2 : Int32))] [])) (fun _ kk' => castTop (ef_cp2_2 m d) kk') ?_
  refine go_of (B := (s₁.setTop (mkF m 3 #[.val (.ref d), .val (.int (2 : Int32))] [(.ref d), (.int (2 : Int32)), (.ref d)]))) (fun _ kk => XS.aloadN X0.here hx rfl (hb hby d22_0) rfl rfl (XS.iloadN X0.here hx rfl (hb hby d22_1) rfl (XS.aloadN X0.here hx rfl (hb hby d22_2) rfl rfl kk))) ?_
  obtain ⟨vm1, X1, st1⟩ := own_gcls X0 hx hZ hown (wd 178 rfl) (wd 179 rfl) (wd 75 rfl) (wd 181 rfl) (wd 180 rfl) (wd 182 rfl) e0 ED M (g := (mkF m 3 #[.val (.ref d), .val (.int (2 : Int32))] [(.ref d), (.int (2 : Int32)), (.ref d)])) rfl (by rw [hml]; rfl) rfl (hb hby d22_3) (by decide) (W := 2) (Nat.le_of_eq rfl) (by decide)
  have e1 : (s₁.setVm vm1).heap = h0 := e0
  refine go_of (B := ((s₁.setVm vm1).setTop (mkF m 6 #[.val (.ref d), .val (.int (2 : Int32))] [(.ref mr), (.int (2 : Int32)), (.ref d)]))) (st1) ?_
  obtain ⟨_, _, ⟨T2, L2, k2, n2⟩, -, X2, ⟨Lc2, hQ2, l2, y2, z2⟩, st2⟩ := Jvm.LawKit.callS X1 hx (y := MN16) hown (mvT hZ (wd 184 rfl)) (mvT hZ (wd 185 rfl)) (mvT hZ (wd 176 rfl)) (mvT hZ (wd 186 rfl)) (by decide) (backOf (W := 0) (cp3_2 l Z a0 hw [] d mr kD x0 x1 h0 n0 (by omega) M VD Ix0 Ix1) hZ (wd 186 rfl) (wd 176 rfl) (by decide) (by decide)) (g := (mkF m 6 #[.val (.ref d), .val (.int (2 : Int32))] [(.ref mr), (.int (2 : Int32)), (.ref d)])) rfl (by rw [hml]; rfl) (argsL := [(.ref d), (.int (2 : Int32)), (.ref mr)]) (rest := []) (lenOf pd___Ljava_lang_Object_ILjava_lang_Class___Ljava_lang_Object_ rfl) rfl (Nat.le_of_eq rfl) (hb hby d22_6) (fun _ _ => ⟨rfl, e1, (by decide : 0 + 1 ≤ _), (by decide : 0 + 2 ≤ _)⟩)
  dsimp only [Pt.U, Pt.locs, Pt.cells, Pt.slots] at X2 l2 y2 z2 st2 hQ2
  subst l2 y2 z2
  obtain ⟨b2, k2, rfl, N2q, lo2, K2, V2⟩ := hQ2
  have lo2 := own_nle lo2
  have N2 := Fr.app N0 N2q
  have hi2 := own_nlt (V2.lt)
  have sz2 := K2.1
  refine go_of (B := (T2.setTop (mkF m 9 #[.val (.ref d), .val (.int (2 : Int32))] [(.ref b2)]))) (st2) ?_
  refine go_end X2 (v := some (.ref b2)) (fun h => by rw [Bd.returns] at h; cases h) Bd.notSynchronized (by decide) (by decide) (Q := (Q_cp2_2 Z d kD x0 x1 mr h0 n0)) ?_ (fun fs hr => own_retA X2 hx Bd.returns rfl rfl (hb hby d22_9) hr)
  unfold Q_cp2_2
  exact ⟨b2, k2, rfl, N2, by omega, ((Keep.refl h0 []).trans K2 all0), V2⟩
def Q_toa_2 (Z : State) (a : Addr) (d : Addr) (mc : Int32) (kD : ClassId) (x0 : Addr) (x1 : Addr) (mr : Addr) (h0 : Heap) (n0 : Nat) (v : Option Value) (h : Heap) (L : List Loc) : Prop := ∃ (t : Addr) (k : ClassId), v = some (.ref t) ∧ Fr n0 L ∧ h0.size ≤ t ∧ Keep h0 h [] ∧ Arv Z h t k (.object "java/lang/Object") 2 [.ref x0, .ref x1] .null
theorem ef_toa_2 (m : MethodId) (a : Addr)  : entryFrame m #[(.ref a)] 1 = mkF m 0 #[.val (.ref a)] [] := by first | (simp [entryFrame, mkF, argsToLocals, Value.category]; done) | rfl
theorem toa_2 (l : Launch) (Z : State) (a0 : Array Value) (hw : TW a0 Z) (ws : List Cond) (a : Addr) (d : Addr) (mc : Int32) (kD : ClassId) (x0 : Addr) (x1 : Addr) (mr : Addr) (h0 : Heap) (n0 : Nat) (Z0 : n0 ≤ h0.size) (A : AL Z h0 a mc d 2) (M : own_Mir Z "[Ljava/lang/Object;" mr) (VD : Arv Z h0 d kD (.object "java/lang/Object") 10 [.ref x0, .ref x1, .null, .null, .null, .null, .null, .null, .null, .null] .null) (Ix0 : Ins Z h0 x0 "java/lang/Object" true) (Ix1 : Ins Z h0 x1 "java/lang/Object" true) (ED : Exa Z h0 d "[Ljava/lang/Object;") :
    own_MF l Z MN14 jdk_38_method_16_code 1 (some (.array (.object "java/lang/Object"))) ws (own_R 3 1 2 46) #[(.ref a)] h0 (Q_toa_2 Z a d mc kD x0 x1 mr h0 n0) := by
  have wd := @own_wd _ _ hw
  refine MetFree.of_bodySF (plainFor_of_name pn_java_util_ArrayList) hisR ?_
  intro p e s m args below meth c s₁ Bd hml0 hP hK
  obtain ⟨rfl, hZ, hh⟩ := hP
  have hx := Bd.exec
  have hby := Bd.bytes
  have hml : c.maxLocals = 1 := hml0
  have hown : s.vm.findClass "java/util/ArrayList" = some m.cls := findClass_of_methodNamed Bd.named
  have hnm := (name_of_methodNamed Bd.named Bd.method).1
  have X0 : Stand p l e (own_R 3 1 2 46) s m #[(.ref a)] below meth c s₁ [] 0 0 := Stand.of_body Bd
  have e0 : s₁.heap = h0 := by rw [← hh, Bd.state]; rfl
  have N0 := Fr.nil n0
  refine go_of (A := s₁.setTop (entryFrame m #[(.ref a)] 1)) (B := s₁.setTop (mkF m 0 #[.val (.ref a)] [])) (fun _ kk' => castTop (ef_toa_2 m a) kk') ?_
  refine go_of (B := (s₁.setTop (mkF m 1 #[.val (.ref a)] [(.ref a)]))) (fun _ kk => XS.aloadN X0.here hx rfl (hb hby d21_0) rfl rfl kk) ?_
  obtain ⟨T1, X1, e1, st1⟩ := getF X0 hx hZ hown (host := "") (Or.inl (wd 114 rfl)) Via.refl e0 A.2.2.1 (g := (mkF m 1 #[.val (.ref a)] [(.ref a)])) rfl rfl (hb hby d21_1)
  refine go_of (B := (T1.setTop (mkF m 4 #[.val (.ref a)] [(.ref d)]))) (st1) ?_
  refine go_of (B := (T1.setTop (mkF m 5 #[.val (.ref a)] [(.ref a), (.ref d)]))) (fun _ kk => XS.aloadN X1.here hx rfl (hb hby d21_4) rfl rfl kk) ?_
  obtain ⟨T2, X2, e2, st2⟩ := getF X1 hx hZ hown (host := "") (Or.inl (wd 123 rfl)) Via.refl e1 A.2.2.2 (g := (mkF m 5 #[.val (.ref a)] [(.ref a), (.ref d)])) rfl rfl (hb hby d21_5)
  refine go_of (B := (T2.setTop (mkF m 8 #[.val (.ref a)] [(.int (2 : Int32)), (.ref d)]))) (st2) ?_
  obtain ⟨_, _, ⟨T3, L3, k3, n3⟩, -, X3, ⟨Lc3, hQ3, l3, y3, z3⟩, st3⟩ := Jvm.LawKit.callS X2 hx (y := MN15) hown (mvT hZ (wd 174 rfl)) (mvT hZ (wd 175 rfl)) (mvT hZ (wd 176 rfl)) (mvT hZ (wd 177 rfl)) (by decide) (backOf (W := 0) (cp2_2 l Z a0 hw [] d kD x0 x1 mr h0 n0 (by omega) M VD Ix0 Ix1 ED) hZ (wd 177 rfl) (wd 176 rfl) (by decide) (by decide)) (g := (mkF m 8 #[.val (.ref a)] [(.int (2 : Int32)), (.ref d)])) rfl (by rw [hml]; rfl) (argsL := [(.ref d), (.int (2 : Int32))]) (rest := []) (lenOf pd___Ljava_lang_Object_I__Ljava_lang_Object_ rfl) rfl (Nat.le_of_eq rfl) (hb hby d21_8) (fun _ _ => ⟨rfl, e2, (by decide : 0 + 1 ≤ _), (by decide : 0 + 2 ≤ _)⟩)
  dsimp only [Pt.U, Pt.locs, Pt.cells, Pt.slots] at X3 l3 y3 z3 st3 hQ3
  subst l3 y3 z3
  obtain ⟨b3, k3, rfl, N3q, lo3, K3, V3⟩ := hQ3
  have lo3 := own_nle lo3
  have N3 := Fr.app N0 N3q
  have hi3 := own_nlt (V3.lt)
  have sz3 := K3.1
  refine go_of (B := (T3.setTop (mkF m 11 #[.val (.ref a)] [(.ref b3)]))) (st3) ?_
  refine go_end X3 (v := some (.ref b3)) (fun h => by rw [Bd.returns] at h; cases h) Bd.notSynchronized (by decide) (by decide) (Q := (Q_toa_2 Z a d mc kD x0 x1 mr h0 n0)) ?_ (fun fs hr => own_retA X3 hx Bd.returns rfl rfl (hb hby d21_11) hr)
  unfold Q_toa_2
  exact ⟨b3, k3, rfl, N3, by omega, ((Keep.refl h0 []).trans K3 all0), V3⟩
def Q_ie_2 (Z : State) (a : Addr) (d : Addr) (mc : Int32) (h0 : Heap) (n0 : Nat) (v : Option Value) (h : Heap) (L : List Loc) : Prop := v = some (.int 0) ∧ Fr n0 L ∧ h = h0
theorem ef_ie_2 (m : MethodId) (a : Addr)  : entryFrame m #[(.ref a)] 1 = mkF m 0 #[.val (.ref a)] [] := by first | (simp [entryFrame, mkF, argsToLocals, Value.category]; done) | rfl
theorem ie_2 (l : Launch) (Z : State) (a0 : Array Value) (hw : TW a0 Z) (ws : List Cond) (a : Addr) (d : Addr) (mc : Int32) (h0 : Heap) (n0 : Nat) (Z0 : n0 ≤ h0.size) (A : AL Z h0 a mc d 2) :
    own_MF l Z MN13 jdk_38_method_9_code 1 (some .boolean) ws (own_R 0 0 0 0) #[(.ref a)] h0 (Q_ie_2 Z a d mc h0 n0) := by
  have wd := @own_wd _ _ hw
  refine MetFree.of_bodySF (plainFor_of_name pn_java_util_ArrayList) hisR ?_
  intro p e s m args below meth c s₁ Bd hml0 hP hK
  obtain ⟨rfl, hZ, hh⟩ := hP
  have hx := Bd.exec
  have hby := Bd.bytes
  have hml : c.maxLocals = 1 := hml0
  have hown : s.vm.findClass "java/util/ArrayList" = some m.cls := findClass_of_methodNamed Bd.named
  have hnm := (name_of_methodNamed Bd.named Bd.method).1
  have X0 : Stand p l e (own_R 0 0 0 0) s m #[(.ref a)] below meth c s₁ [] 0 0 := Stand.of_body Bd
  have e0 : s₁.heap = h0 := by rw [← hh, Bd.state]; rfl
  have N0 := Fr.nil n0
  refine go_of (A := s₁.setTop (entryFrame m #[(.ref a)] 1)) (B := s₁.setTop (mkF m 0 #[.val (.ref a)] [])) (fun _ kk' => castTop (ef_ie_2 m a) kk') ?_
  refine go_of (B := (s₁.setTop (mkF m 1 #[.val (.ref a)] [(.ref a)]))) (fun _ kk => XS.aloadN X0.here hx rfl (hb hby d20_0) rfl rfl kk) ?_
  obtain ⟨T1, X1, e1, st1⟩ := getF X0 hx hZ hown (host := "") (Or.inl (wd 123 rfl)) Via.refl e0 A.2.2.2 (g := (mkF m 1 #[.val (.ref a)] [(.ref a)])) rfl rfl (hb hby d20_1)
  refine go_of (B := (T1.setTop (mkF m 4 #[.val (.ref a)] [(.int (2 : Int32))]))) (st1) ?_
  refine go_of (B := (T1.setTop (mkF m 12 #[.val (.ref a)] [(.int (0 : Int32))]))) (fun _ kk => XS.ifYes X1.here hx rfl (pc0 := 4) (pc' := 11) rfl (hb hby d20_4) rfl ((if0 _ _).trans (feq (by decide : ¬ ((2 : Int32) = (0 : Int32)))).2) (by decide) (by decide) (XS.iconst X1.here hx rfl (hb hby d20_11) kk)) ?_
  refine go_end X1 (v := some (.int (nar .boolean (0 : Int32)))) (fun h => by rw [Bd.returns] at h; cases h) Bd.notSynchronized (by decide) (by decide) (Q := (Q_ie_2 Z a d mc h0 n0)) ?_ (fun fs hr => retN X1 hx (t := .boolean) Bd.returns (by simp) (hb hby d20_12) hr)
  unfold Q_ie_2
  try rw [e1]
  exact ⟨rfl, N0, rfl⟩
theorem d25_45 : decode jdk_40_method_47_code 45 = .ok (.new 96, 3) := by decide +kernel
theorem d25_48 : decode jdk_40_method_47_code 48 = .ok (.dup, 1) := by decide +kernel
theorem d25_49 : decode jdk_40_method_47_code 49 = .ok (.aload_n 0, 1) := by decide +kernel
theorem d25_50 : decode jdk_40_method_47_code 50 = .ok (.iconst 0, 1) := by decide +kernel
theorem d25_51 : decode jdk_40_method_47_code 51 = .ok (.aaload, 1) := by decide +kernel
theorem d25_52 : decode jdk_40_method_47_code 52 = .ok (.aload_n 0, 1) := by decide +kernel
theorem d25_53 : decode jdk_40_method_47_code 53 = .ok (.iconst 1, 1) := by decide +kernel
theorem d25_54 : decode jdk_40_method_47_code 54 = .ok (.aaload, 1) := by decide +kernel
theorem d25_55 : decode jdk_40_method_47_code 55 = .ok (.invokespecial 100, 3) := by decide +kernel
theorem pd__Ljava_lang_Object_Ljava_lang_Object__V : parseMethodDescriptor "(Ljava/lang/Object;Ljava/lang/Object;)V" = some ⟨[(.object "java/lang/Object"), (.object "java/lang/Object")], none⟩ := by decide +kernel
theorem d25_58 : decode jdk_40_method_47_code 58 = .ok (.areturn, 1) := by decide +kernel
def Q_loa_2 (Z : State) (d : Addr) (kD : ClassId) (x0 : Addr) (x1 : Addr) (wM : Addr) (h0 : Heap) (n0 : Nat) (v : Option Value) (h : Heap) (L : List Loc) : Prop := ∃ (t : Addr), v = some (.ref t) ∧ Fr n0 L ∧ h0.size ≤ t ∧ Keep h0 h [] ∧ L2 Z h t x0 x1
theorem ef_loa_2 (m : MethodId) (d : Addr)  : entryFrame m #[(.ref d)] 2 = mkF m 0 #[.val (.ref d), .unset] [] := by first | (simp [entryFrame, mkF, argsToLocals, Value.category]; done) | rfl
theorem loa_2 (l : Launch) (Z : State) (a0 : Array Value) (hw : TW a0 Z) (ws : List Cond) (d : Addr) (kD : ClassId) (x0 : Addr) (x1 : Addr) (wM : Addr) (h0 : Heap) (n0 : Nat) (Z0 : n0 ≤ h0.size) (O : Old Z n0 h0) (SM : Sta Z Z.heap "java/util/ImmutableCollections" "EMPTY" "Ljava/lang/Object;" (.ref wM)) (VD : Arv Z h0 d kD (.object "java/lang/Object") 2 [.ref x0, .ref x1] .null) :
    own_MF l Z MN30 jdk_40_method_47_code 2 (some (.object "java/util/List")) ws (own_R 5 1 2 63) #[(.ref d)] h0 (Q_loa_2 Z d kD x0 x1 wM h0 n0) := by
  have wd := @own_wd _ _ hw
  refine MetFree.of_bodySF (plainFor_of_name pn_java_util_List) hisR ?_
  intro p e s m args below meth c s₁ Bd hml0 hP hK
  obtain ⟨rfl, hZ, hh⟩ := hP
  have hx := Bd.exec
  have hby := Bd.bytes
  have hml : c.maxLocals = 2 := hml0
  have hown : s.vm.findClass "java/util/List" = some m.cls := findClass_of_methodNamed Bd.named
  have hnm := (name_of_methodNamed Bd.named Bd.method).1
  have X0 : Stand p l e (own_R 5 1 2 63) s m #[(.ref d)] below meth c s₁ [] 0 0 := Stand.of_body Bd
  have e0 : s₁.heap = h0 := by rw [← hh, Bd.state]; rfl
  have N0 := Fr.nil n0
  have ltd := own_nlt (VD.lt)
  refine go_of (A := s₁.setTop (entryFrame m #[(.ref d)] 2)) (B := s₁.setTop (mkF m 0 #[.val (.ref d), .unset] [])) (fun _ kk' => castTop (ef_loa_2 m d) kk') ?_
  refine go_of (B := (s₁.setTop (mkF m 1 #[.val (.ref d), .unset] [(.ref d)]))) (fun _ kk => XS.aloadN X0.here hx rfl (hb hby d25_0) rfl rfl kk) ?_
  obtain ⟨cl1, Ar1, q1, Sz1, Nn1, Hh1, G1⟩ := id (VD)
  have ln1 := len_of Sz1 Nn1
  refine go_of (B := (s₁.setTop (mkF m 2 #[.val (.ref d), .unset] [(.int (2 : Int32))]))) (fun _ kk => X0.arraylength hx (by rw [e0]; exact Ar1.1) (State.isArrayOf_alike hZ.alike Ar1.2.1) (g := (mkF m 1 #[.val (.ref d), .unset] [(.ref d)])) rfl rfl (hb hby d25_1) _ (by rw [ln1]; exact kk)) ?_
  refine go_of (B := (s₁.setTop (mkF m 45 #[.val (.ref d), .unset] []))) (fun _ kk => own_tsw (g := (mkF m 2 #[.val (.ref d), .unset] [(.int (2 : Int32))])) X0 hx rfl rfl (pc0 := 2) (pc' := 45) rfl (hb hby d25_2) 2 (by decide) (by decide) 43 (by decide) (by decide) (by decide) kk) ?_
  obtain ⟨T2, h2, X2, e2, E2, A2, D2, -, st2⟩ := newO X0 hx hZ hown (wd 199 rfl) (wd 200 rfl) (wd 201 rfl) e0 (g := (mkF m 45 #[.val (.ref d), .unset] [])) rfl (hb hby d25_45) (by decide) (by decide)
  obtain ⟨b2, g2⟩ : ∃ z, z = h0.size := ⟨_, rfl⟩
  rw [← g2] at A2 D2 st2
  have hi2 := own_nlt A2.lt
  have sz2 := E2.1
  have F2_e0 : Fld Z h2 b2 "java/util/ImmutableCollections$List12" "e0" "Ljava/lang/Object;" .null := D2 (Or.inr (wd 224 rfl)) (ty := (.object "java/lang/Object")) (by decide)
  have F2_e1 : Fld Z h2 b2 "java/util/ImmutableCollections$List12" "e1" "Ljava/lang/Object;" .null := D2 (Or.inr (wd 227 rfl)) (ty := (.object "java/lang/Object")) (by decide)
  refine go_of (B := (T2.setTop (mkF m 48 #[.val (.ref d), .unset] [(.ref b2)]))) (st2) ?_
  refine go_of (B := (T2.setTop (mkF m 51 #[.val (.ref d), .unset] [(.int (0 : Int32)), (.ref d), (.ref b2), (.ref b2)]))) (fun _ kk => XS.dup X2.here hx rfl (hb hby d25_48) rfl rfl (XS.aloadN X2.here hx rfl (hb hby d25_49) rfl rfl (XS.iconst X2.here hx rfl (hb hby d25_50) kk))) ?_
  have cf_3 := (VD.ext E2)
  obtain ⟨cl4, Ar4, q4, Sz4, Nn4, Hh4, G4⟩ := id (cf_3)
  refine go_of (B := (T2.setTop (mkF m 54 #[.val (.ref d), .unset] [(.int (1 : Int32)), (.ref d), (.ref x0), (.ref b2), (.ref b2)]))) (fun _ kk => X2.aaload hx (j := (0 : Int32)) (v := (.ref x0)) (by rw [e2]; exact Ar4.1) (State.isArrayOf_alike hZ.alike Ar4.2.1) rfl Ar4.2.2 (inb_of Sz4 ⟨by decide, by decide⟩) (Hh4.at (inb_of Sz4 ⟨by decide, by decide⟩) rfl) (g := (mkF m 51 #[.val (.ref d), .unset] [(.int (0 : Int32)), (.ref d), (.ref b2), (.ref b2)])) rfl rfl (hb hby d25_51) _ (XS.aloadN X2.here hx rfl (hb hby d25_52) rfl rfl (XS.iconst X2.here hx rfl (hb hby d25_53) kk))) ?_
  obtain ⟨cl5, Ar5, q5, Sz5, Nn5, Hh5, G5⟩ := id (cf_3)
  refine go_of (B := (T2.setTop (mkF m 55 #[.val (.ref d), .unset] [(.ref x1), (.ref x0), (.ref b2), (.ref b2)]))) (fun _ kk => X2.aaload hx (j := (1 : Int32)) (v := (.ref x1)) (by rw [e2]; exact Ar5.1) (State.isArrayOf_alike hZ.alike Ar5.2.1) rfl Ar5.2.2 (inb_of Sz5 ⟨by decide, by decide⟩) (Hh5.at (inb_of Sz5 ⟨by decide, by decide⟩) rfl) (g := (mkF m 54 #[.val (.ref d), .unset] [(.int (1 : Int32)), (.ref d), (.ref x0), (.ref b2), (.ref b2)])) rfl rfl (hb hby d25_54) _ kk) ?_
  obtain ⟨_, _, ⟨T6, L6, k6, n6⟩, -, X6, ⟨Lc6, hQ6, l6, y6, z6⟩, st6⟩ := X2.specialBack hx (y := (⟨"java/util/ImmutableCollections$List12", "<init>", "(Ljava/lang/Object;Ljava/lang/Object;)V"⟩ : MethodName)) rfl hown (mvT hZ (wd 272 rfl)) (mvT hZ (wd 273 rfl)) (mvT hZ (wd 274 rfl)) (by decide) (backOf (W := 1) (l12b l Z a0 hw [] b2 x0 x1 _ _ h2 n0 (by omega) A2 F2_e0 F2_e1 (by first | omega | exact own_ne (by omega) | exact own_le (by omega))) hZ (wd 274 rfl) (wd 201 rfl) (by decide) (by decide)) (g := (mkF m 55 #[.val (.ref d), .unset] [(.ref x1), (.ref x0), (.ref b2), (.ref b2)])) rfl (by rw [hml]; rfl) (Steps.refl _) (a := b2) (argsL := [(.ref x0), (.ref x1)]) (rest := [(.ref b2)]) (lenOf pd__Ljava_lang_Object_Ljava_lang_Object__V rfl) rfl (Nat.le_of_eq rfl) (hb hby d25_55) (fun _ _ => ⟨rfl, e2, (by decide : 1 + 0 ≤ _), (by decide : 2 + 0 ≤ _)⟩)
  dsimp only [Pt.U, Pt.locs, Pt.cells, Pt.slots] at X6 l6 y6 z6 st6 hQ6
  subst l6 y6 z6
  obtain ⟨rfl, N6q, K6, A6⟩ := hQ6
  have N6 := Fr.app N0 N6q
  have sz6 := K6.1
  refine go_tr (B := (T6.setTop (mkF m 58 #[.val (.ref d), .unset] [(.ref b2)]))) (st6) ?_
  refine go_end X6 (v := some (.ref b2)) (fun h => by rw [Bd.returns] at h; cases h) Bd.notSynchronized (by decide) (by decide) (Q := (Q_loa_2 Z d kD x0 x1 wM h0 n0)) ?_ (fun fs hr => own_retA X6 hx Bd.returns rfl rfl (hb hby d25_58) hr)
  unfold Q_loa_2
  exact ⟨b2, rfl, N6, by omega, (((Keep.refl h0 []).ext E2).trans K6 (allS (Or.inr (by first | omega | exact own_ne (by omega) | exact own_le (by omega))) all0)), ⟨A6.1, A6.2.1, A6.2.2⟩⟩
def Q_lc_2 (Z : State) (a : Addr) (d : Addr) (mc : Int32) (kD : ClassId) (x0 : Addr) (x1 : Addr) (mr : Addr) (wM : Addr) (h0 : Heap) (n0 : Nat) (v : Option Value) (h : Heap) (L : List Loc) : Prop := ∃ (t : Addr), v = some (.ref t) ∧ Fr n0 L ∧ h0.size ≤ t ∧ Keep h0 h [] ∧ L2 Z h t x0 x1
theorem ef_lc_2 (m : MethodId) (a : Addr)  : entryFrame m #[(.ref a)] 2 = mkF m 0 #[.val (.ref a), .unset] [] := by first | (simp [entryFrame, mkF, argsToLocals, Value.category]; done) | rfl
theorem lc_2 (l : Launch) (Z : State) (a0 : Array Value) (hw : TW a0 Z) (ws : List Cond) (a : Addr) (d : Addr) (mc : Int32) (kD : ClassId) (x0 : Addr) (x1 : Addr) (mr : Addr) (wM : Addr) (h0 : Heap) (n0 : Nat) (Z0 : n0 ≤ h0.size) (O : Old Z n0 h0) (SM : Sta Z Z.heap "java/util/ImmutableCollections" "EMPTY" "Ljava/lang/Object;" (.ref wM)) (A : AL Z h0 a mc d 2) (M : own_Mir Z "[Ljava/lang/Object;" mr) (VD : Arv Z h0 d kD (.object "java/lang/Object") 10 [.ref x0, .ref x1, .null, .null, .null, .null, .null, .null, .null, .null] .null) (Ix0 : Ins Z h0 x0 "java/lang/Object" true) (Ix1 : Ins Z h0 x1 "java/lang/Object" true) (ED : Exa Z h0 d "[Ljava/lang/Object;") :
    own_MF l Z MN19 jdk_56_method_3_code 2 (some (.object "java/util/List")) ws (own_R 6 2 4 76) #[(.ref a)] h0 (Q_lc_2 Z a d mc kD x0 x1 mr wM h0 n0) := by
  have wd := @own_wd _ _ hw
  refine MetFree.of_bodySF (plainFor_of_name pn_java_util_ImmutableCollections) hisR ?_
  intro p e s m args below meth c s₁ Bd hml0 hP hK
  obtain ⟨rfl, hZ, hh⟩ := hP
  have hx := Bd.exec
  have hby := Bd.bytes
  have hml : c.maxLocals = 2 := hml0
  have hown : s.vm.findClass "java/util/ImmutableCollections" = some m.cls := findClass_of_methodNamed Bd.named
  have hnm := (name_of_methodNamed Bd.named Bd.method).1
  have X0 : Stand p l e (own_R 6 2 4 76) s m #[(.ref a)] below meth c s₁ [] 0 0 := Stand.of_body Bd
  have e0 : s₁.heap = h0 := by rw [← hh, Bd.state]; rfl
  have N0 := Fr.nil n0
  refine go_of (A := s₁.setTop (entryFrame m #[(.ref a)] 2)) (B := s₁.setTop (mkF m 0 #[.val (.ref a), .unset] [])) (fun _ kk' => castTop (ef_lc_2 m a) kk') ?_
  refine go_of (B := (s₁.setTop (mkF m 1 #[.val (.ref a), .unset] [(.ref a)]))) (fun _ kk => XS.aloadN X0.here hx rfl (hb hby d10_0) rfl rfl kk) ?_
  obtain ⟨T1, X1, e1, st1⟩ := instNo X0 hx hZ hown (wd 70 rfl) e0 A.1 (own_nsno (wd 155 rfl) (wd 200 rfl) (NS.step (wd 155 rfl) (NS.step (wd 156 rfl) (NS.step (wd 74 rfl) (own_nsroot (wd 75 rfl) (wd 200 rfl) (by decide)) (by decide)) (by decide)) (by decide)) (by decide)) (g := (mkF m 1 #[.val (.ref a), .unset] [(.ref a)])) rfl rfl (hb hby d10_1)
  refine go_of (B := (T1.setTop (mkF m 4 #[.val (.ref a), .unset] [(.int (0 : Int32))]))) (st1) ?_
  refine go_of (B := (T1.setTop (mkF m 8 #[.val (.ref a), .unset] [(.ref a)]))) (fun _ kk => XS.ifNo X1.here hx rfl (hb hby d10_4) rfl ((if0 _ _).trans (teq (by decide : (0 : Int32) = (0 : Int32))).2) (XS.aloadN X1.here hx rfl (hb hby d10_7) rfl rfl kk)) ?_
  obtain ⟨T2, X2, e2, st2⟩ := instNo X1 hx hZ hown (wd 76 rfl) e1 A.1 (own_nsno (wd 155 rfl) (wd 280 rfl) (NS.step (wd 155 rfl) (NS.step (wd 156 rfl) (NS.step (wd 74 rfl) (own_nsroot (wd 75 rfl) (wd 280 rfl) (by decide)) (by decide)) (by decide)) (by decide)) (by decide)) (g := (mkF m 8 #[.val (.ref a), .unset] [(.ref a)])) rfl rfl (hb hby d10_8)
  refine go_of (B := (T2.setTop (mkF m 11 #[.val (.ref a), .unset] [(.int (0 : Int32))]))) (st2) ?_
  refine go_of (B := (T2.setTop (mkF m 32 #[.val (.ref a), .unset] [(.ref a)]))) (fun _ kk => XS.ifYes X2.here hx rfl (pc0 := 11) (pc' := 31) rfl (hb hby d10_11) rfl ((if0 _ _).trans (teq (by decide : (0 : Int32) = (0 : Int32))).1) (by decide) (by decide) (XS.aloadN X2.here hx rfl (hb hby d10_31) rfl rfl kk)) ?_
  obtain ⟨cq3, kq3, q3a, q3b, q3c⟩ := isOf hZ e2 A.1
  obtain ⟨_, _, ⟨T3, L3, k3, n3⟩, -, X3, ⟨Lc3, hQ3, l3, y3, z3⟩, st3⟩ := X2.interfaceBack hx (xi := MN17) (y := MN13) hown (mvT hZ (wd 157 rfl)) (mvT hZ (wd 158 rfl)) (mvT hZ (wd 159 rfl)) (mvT hZ (wd 160 rfl)) (mvT hZ (wd 161 rfl)) (mvT hZ (wd 162 rfl)) (mvT hZ (wd 163 rfl)) (mvT hZ (wd 164 rfl)) (by decide) (backOf (W := 0) (ie_2 l Z a0 hw [] a d mc h0 n0 (by omega) A) hZ (wd 165 rfl) (wd 94 rfl) (by decide) (by decide)) q3a q3b q3c (g := (mkF m 32 #[.val (.ref a), .unset] [(.ref a)])) rfl (by rw [hml]; rfl) (Steps.refl _) (argsL := []) (rest := []) (lenOf pd___Z rfl) rfl (Nat.le_of_eq rfl) (hb hby d10_32) (fun _ _ => ⟨rfl, e2, (by decide : 0 + 0 ≤ _), (by decide : 0 + 0 ≤ _)⟩)
  dsimp only [Pt.U, Pt.locs, Pt.cells, Pt.slots] at X3 l3 y3 z3 st3 hQ3
  subst l3 y3 z3
  obtain ⟨rfl, N3q, e3⟩ := hQ3
  have N3 := Fr.app N0 N3q
  refine go_tr (B := (T3.setTop (mkF m 37 #[.val (.ref a), .unset] [(.int (0 : Int32))]))) (st3) ?_
  refine go_of (B := (T3.setTop (mkF m 45 #[.val (.ref a), .unset] [(.ref a)]))) (fun _ kk => XS.ifYes X3.here hx rfl (pc0 := 37) (pc' := 44) rfl (hb hby d10_37) rfl ((if0 _ _).trans (teq (by decide : (0 : Int32) = (0 : Int32))).1) (by decide) (by decide) (XS.aloadN X3.here hx rfl (hb hby d10_44) rfl rfl kk)) ?_
  obtain ⟨cq4, kq4, q4a, q4b, q4c⟩ := isOf hZ e3 A.1
  obtain ⟨_, _, ⟨T4, L4, k4, n4⟩, -, X4, ⟨Lc4, hQ4, l4, y4, z4⟩, st4⟩ := X3.interfaceBack hx (xi := MN18) (y := MN14) hown (mvT hZ (wd 166 rfl)) (mvT hZ (wd 167 rfl)) (mvT hZ (wd 168 rfl)) (mvT hZ (wd 169 rfl)) (mvT hZ (wd 170 rfl)) (mvT hZ (wd 171 rfl)) (mvT hZ (wd 172 rfl)) (mvT hZ (wd 164 rfl)) (by decide) (backOf (W := 0) (toa_2 l Z a0 hw [] a d mc kD x0 x1 mr h0 n0 (by omega) A M VD Ix0 Ix1 ED) hZ (wd 173 rfl) (wd 94 rfl) (by decide) (by decide)) q4a q4b q4c (g := (mkF m 45 #[.val (.ref a), .unset] [(.ref a)])) rfl (by rw [hml]; rfl) (Steps.refl _) (argsL := []) (rest := []) (lenOf pd____Ljava_lang_Object_ rfl) rfl (Nat.le_of_eq rfl) (hb hby d10_45) (fun _ _ => ⟨rfl, e3, (by decide : 0 + 1 ≤ _), (by decide : 0 + 2 ≤ _)⟩)
  dsimp only [Pt.U, Pt.locs, Pt.cells, Pt.slots] at X4 l4 y4 z4 st4 hQ4
  subst l4 y4 z4
  obtain ⟨b4, k4, rfl, N4q, lo4, K4, V4⟩ := hQ4
  have lo4 := own_nle lo4
  have N4 := Fr.app N3 N4q
  have hi4 := own_nlt (V4.lt)
  have sz4 := K4.1
  refine go_tr (B := (T4.setTop (mkF m 50 #[.val (.ref a), .unset] [(.ref b4)]))) (st4) ?_
  have cf_5 := (O.keep K4 all0)
  obtain ⟨_, _, ⟨T6, L6, k6, n6⟩, -, X6, ⟨Lc6, hQ6, l6, y6, z6⟩, st6⟩ := Jvm.LawKit.callS X4 hx (y := MN30) hown (mvT hZ (wd 196 rfl)) (mvT hZ (wd 197 rfl)) (mvT hZ (wd 51 rfl)) (mvT hZ (wd 198 rfl)) (by decide) (backOf (W := 0) (loa_2 l Z a0 hw [] b4 k4 x0 x1 wM T4.heap n0 (by omega) cf_5 SM V4) hZ (wd 198 rfl) (wd 51 rfl) (by decide) (by decide)) (g := (mkF m 50 #[.val (.ref a), .unset] [(.ref b4)])) rfl (by rw [hml]; rfl) (argsL := [(.ref b4)]) (rest := []) (lenOf pd___Ljava_lang_Object__Ljava_util_List_ rfl) rfl (Nat.le_of_eq rfl) (hb hby d10_50) (fun _ _ => ⟨rfl, rfl, (by decide : 1 + 1 ≤ _), (by decide : 2 + 2 ≤ _)⟩)
  dsimp only [Pt.U, Pt.locs, Pt.cells, Pt.slots] at X6 l6 y6 z6 st6 hQ6
  subst l6 y6 z6
  obtain ⟨b6, rfl, N6q, lo6, K6, A6⟩ := hQ6
  have lo6 := own_nle lo6
  have N6 := Fr.app N4 N6q
  have hi6 := own_nlt (A6.1.lt)
  have sz6 := K6.1
  refine go_of (B := (T6.setTop (mkF m 53 #[.val (.ref a), .unset] [(.ref b6)]))) (st6) ?_
  refine go_end X6 (v := some (.ref b6)) (fun h => by rw [Bd.returns] at h; cases h) Bd.notSynchronized (by decide) (by decide) (Q := (Q_lc_2 Z a d mc kD x0 x1 mr wM h0 n0)) ?_ (fun fs hr => own_retA X6 hx Bd.returns rfl rfl (hb hby d10_53) hr)
  unfold Q_lc_2
  exact ⟨b6, rfl, N6, by omega, (((Keep.refl h0 []).trans K4 all0).trans K6 all0), ⟨A6.1, A6.2.1, A6.2.2⟩⟩
def Q_co_2 (Z : State) (a : Addr) (d : Addr) (mc : Int32) (kD : ClassId) (x0 : Addr) (x1 : Addr) (mr : Addr) (wM : Addr) (h0 : Heap) (n0 : Nat) (v : Option Value) (h : Heap) (L : List Loc) : Prop := ∃ (t : Addr), v = some (.ref t) ∧ Fr n0 L ∧ h0.size ≤ t ∧ Keep h0 h [] ∧ L2 Z h t x0 x1
theorem ef_co_2 (m : MethodId) (a : Addr)  : entryFrame m #[(.ref a)] 1 = mkF m 0 #[.val (.ref a)] [] := by first | (simp [entryFrame, mkF, argsToLocals, Value.category]; done) | rfl
theorem co_2 (l : Launch) (Z : State) (a0 : Array Value) (hw : TW a0 Z) (ws : List Cond) (a : Addr) (d : Addr) (mc : Int32) (kD : ClassId) (x0 : Addr) (x1 : Addr) (mr : Addr) (wM : Addr) (h0 : Heap) (n0 : Nat) (Z0 : n0 ≤ h0.size) (O : Old Z n0 h0) (SM : Sta Z Z.heap "java/util/ImmutableCollections" "EMPTY" "Ljava/lang/Object;" (.ref wM)) (A : AL Z h0 a mc d 2) (M : own_Mir Z "[Ljava/lang/Object;" mr) (VD : Arv Z h0 d kD (.object "java/lang/Object") 10 [.ref x0, .ref x1, .null, .null, .null, .null, .null, .null, .null, .null] .null) (Ix0 : Ins Z h0 x0 "java/lang/Object" true) (Ix1 : Ins Z h0 x1 "java/lang/Object" true) (ED : Exa Z h0 d "[Ljava/lang/Object;") :
    own_MF l Z MN26 jdk_40_method_48_code 1 (some (.object "java/util/List")) ws (own_R 7 2 4 89) #[(.ref a)] h0 (Q_co_2 Z a d mc kD x0 x1 mr wM h0 n0) := by
  have wd := @own_wd _ _ hw
  refine MetFree.of_bodySF (plainFor_of_name pn_java_util_List) hisR ?_
  intro p e s m args below meth c s₁ Bd hml0 hP hK
  obtain ⟨rfl, hZ, hh⟩ := hP
  have hx := Bd.exec
  have hby := Bd.bytes
  have hml : c.maxLocals = 1 := hml0
  have hown : s.vm.findClass "java/util/List" = some m.cls := findClass_of_methodNamed Bd.named
  have hnm := (name_of_methodNamed Bd.named Bd.method).1
  have X0 : Stand p l e (own_R 7 2 4 89) s m #[(.ref a)] below meth c s₁ [] 0 0 := Stand.of_body Bd
  have e0 : s₁.heap = h0 := by rw [← hh, Bd.state]; rfl
  have N0 := Fr.nil n0
  refine go_of (A := s₁.setTop (entryFrame m #[(.ref a)] 1)) (B := s₁.setTop (mkF m 0 #[.val (.ref a)] [])) (fun _ kk' => castTop (ef_co_2 m a) kk') ?_
  refine go_of (B := (s₁.setTop (mkF m 1 #[.val (.ref a)] [(.ref a)]))) (fun _ kk => XS.aloadN X0.here hx rfl (hb hby d9_0) rfl rfl kk) ?_
  obtain ⟨_, _, ⟨T1, L1, k1, n1⟩, -, X1, ⟨Lc1, hQ1, l1, y1, z1⟩, st1⟩ := Jvm.LawKit.callS X0 hx (y := MN19) hown (mvT hZ (wd 67 rfl)) (mvT hZ (wd 68 rfl)) (mvT hZ (wd 54 rfl)) (mvT hZ (wd 69 rfl)) (by decide) (backOf (W := 0) (lc_2 l Z a0 hw [] a d mc kD x0 x1 mr wM h0 n0 (by omega) O SM A M VD Ix0 Ix1 ED) hZ (wd 69 rfl) (wd 54 rfl) (by decide) (by decide)) (g := (mkF m 1 #[.val (.ref a)] [(.ref a)])) rfl (by rw [hml]; rfl) (argsL := [(.ref a)]) (rest := []) (lenOf pd__Ljava_util_Collection__Ljava_util_List_ rfl) rfl (Nat.le_of_eq rfl) (hb hby d9_1) (fun _ _ => ⟨rfl, e0, (by decide : 0 + 2 ≤ _), (by decide : 0 + 4 ≤ _)⟩)
  dsimp only [Pt.U, Pt.locs, Pt.cells, Pt.slots] at X1 l1 y1 z1 st1 hQ1
  subst l1 y1 z1
  obtain ⟨b1, rfl, N1q, lo1, K1, A1⟩ := hQ1
  have lo1 := own_nle lo1
  have N1 := Fr.app N0 N1q
  have hi1 := own_nlt (A1.1.lt)
  have sz1 := K1.1
  refine go_of (B := (T1.setTop (mkF m 4 #[.val (.ref a)] [(.ref b1)]))) (st1) ?_
  refine go_end X1 (v := some (.ref b1)) (fun h => by rw [Bd.returns] at h; cases h) Bd.notSynchronized (by decide) (by decide) (Q := (Q_co_2 Z a d mc kD x0 x1 mr wM h0 n0)) ?_ (fun fs hr => own_retA X1 hx Bd.returns rfl rfl (hb hby d9_4) hr)
  unfold Q_co_2
  exact ⟨b1, rfl, N1, by omega, ((Keep.refl h0 []).trans K1 all0), ⟨A1.1, A1.2.1, A1.2.2⟩⟩
def Q_li_2 (Z : State) (a : Addr) (x0 : Addr) (x1 : Addr) (wM : Addr) (h0 : Heap) (n0 : Nat) (v : Option Value) (h : Heap) (L : List Loc) : Prop := v = some (.int 0) ∧ Fr n0 L ∧ h = h0
theorem ef_li_2 (m : MethodId) (a : Addr)  : entryFrame m #[(.ref a)] 1 = mkF m 0 #[.val (.ref a)] [] := by first | (simp [entryFrame, mkF, argsToLocals, Value.category]; done) | rfl
theorem li_2 (l : Launch) (Z : State) (a0 : Array Value) (hw : TW a0 Z) (ws : List Cond) (a : Addr) (x0 : Addr) (x1 : Addr) (wM : Addr) (h0 : Heap) (n0 : Nat) (Z0 : n0 ≤ h0.size) (O : Old Z n0 h0) (SM : Sta Z Z.heap "java/util/ImmutableCollections" "EMPTY" "Ljava/lang/Object;" (.ref wM)) (hne : x1 ≠ wM) (A : L2 Z h0 a x0 x1) :
    own_MF l Z MN22 jdk_44_method_4_code 1 (some .boolean) ws (own_R 0 0 0 0) #[(.ref a)] h0 (Q_li_2 Z a x0 x1 wM h0 n0) := by
  have wd := @own_wd _ _ hw
  refine MetFree.of_bodySF (plainFor_of_name pn_java_util_ImmutableCollections_List12) hisR ?_
  intro p e s m args below meth c s₁ Bd hml0 hP hK
  obtain ⟨rfl, hZ, hh⟩ := hP
  have hx := Bd.exec
  have hby := Bd.bytes
  have hml : c.maxLocals = 1 := hml0
  have hown : s.vm.findClass "java/util/ImmutableCollections$List12" = some m.cls := findClass_of_methodNamed Bd.named
  have hnm := (name_of_methodNamed Bd.named Bd.method).1
  have X0 : Stand p l e (own_R 0 0 0 0) s m #[(.ref a)] below meth c s₁ [] 0 0 := Stand.of_body Bd
  have e0 : s₁.heap = h0 := by rw [← hh, Bd.state]; rfl
  have N0 := Fr.nil n0
  refine go_of (A := s₁.setTop (entryFrame m #[(.ref a)] 1)) (B := s₁.setTop (mkF m 0 #[.val (.ref a)] [])) (fun _ kk' => castTop (ef_li_2 m a) kk') ?_
  refine go_of (B := (s₁.setTop (mkF m 1 #[.val (.ref a)] [(.int (0 : Int32))]))) (fun _ kk => XS.iconst X0.here hx rfl (hb hby d30_0) kk) ?_
  refine go_end X0 (v := some (.int (nar .boolean (0 : Int32)))) (fun h => by rw [Bd.returns] at h; cases h) Bd.notSynchronized (by decide) (by decide) (Q := (Q_li_2 Z a x0 x1 wM h0 n0)) ?_ (fun fs hr => retN X0 hx (t := .boolean) Bd.returns (by simp) (hb hby d30_1) hr)
  unfold Q_li_2
  try rw [e0]
  exact ⟨rfl, N0, rfl⟩
theorem d31_10 : decode jdk_44_method_3_code 10 = .ok (.iconst 2, 1) := by decide +kernel
theorem d31_11 : decode jdk_44_method_3_code 11 = .ok (.goto 4, 3) := by decide +kernel
def Q_ls_2 (Z : State) (a : Addr) (x0 : Addr) (x1 : Addr) (wM : Addr) (h0 : Heap) (n0 : Nat) (v : Option Value) (h : Heap) (L : List Loc) : Prop := v = some (.int 2) ∧ Fr n0 L ∧ h = h0
theorem ef_ls_2 (m : MethodId) (a : Addr)  : entryFrame m #[(.ref a)] 1 = mkF m 0 #[.val (.ref a)] [] := by first | (simp [entryFrame, mkF, argsToLocals, Value.category]; done) | rfl
theorem ls_2 (l : Launch) (Z : State) (a0 : Array Value) (hw : TW a0 Z) (ws : List Cond) (a : Addr) (x0 : Addr) (x1 : Addr) (wM : Addr) (h0 : Heap) (n0 : Nat) (Z0 : n0 ≤ h0.size) (O : Old Z n0 h0) (SM : Sta Z Z.heap "java/util/ImmutableCollections" "EMPTY" "Ljava/lang/Object;" (.ref wM)) (hne : x1 ≠ wM) (A : L2 Z h0 a x0 x1) :
    own_MF l Z MN23 jdk_44_method_3_code 1 (some .int) ws (own_R 0 0 0 0) #[(.ref a)] h0 (Q_ls_2 Z a x0 x1 wM h0 n0) := by
  have wd := @own_wd _ _ hw
  refine MetFree.of_bodySF (plainFor_of_name pn_java_util_ImmutableCollections_List12) hisR ?_
  intro p e s m args below meth c s₁ Bd hml0 hP hK
  obtain ⟨rfl, hZ, hh⟩ := hP
  have hx := Bd.exec
  have hby := Bd.bytes
  have hml : c.maxLocals = 1 := hml0
  have hown : s.vm.findClass "java/util/ImmutableCollections$List12" = some m.cls := findClass_of_methodNamed Bd.named
  have hnm := (name_of_methodNamed Bd.named Bd.method).1
  have X0 : Stand p l e (own_R 0 0 0 0) s m #[(.ref a)] below meth c s₁ [] 0 0 := Stand.of_body Bd
  have e0 : s₁.heap = h0 := by rw [← hh, Bd.state]; rfl
  have N0 := Fr.nil n0
  refine go_of (A := s₁.setTop (entryFrame m #[(.ref a)] 1)) (B := s₁.setTop (mkF m 0 #[.val (.ref a)] [])) (fun _ kk' => castTop (ef_ls_2 m a) kk') ?_
  refine go_of (B := (s₁.setTop (mkF m 1 #[.val (.ref a)] [(.ref a)]))) (fun _ kk => XS.aloadN X0.here hx rfl (hb hby d31_0) rfl rfl kk) ?_
  obtain ⟨T1, X1, e1, st1⟩ := getF X0 hx hZ hown (host := "") (Or.inl (wd 226 rfl)) Via.refl e0 A.2.2 (g := (mkF m 1 #[.val (.ref a)] [(.ref a)])) rfl rfl (hb hby d31_1)
  refine go_of (B := (T1.setTop (mkF m 4 #[.val (.ref a)] [(.ref x1)]))) (st1) ?_
  obtain ⟨T2, X2, e2, st2⟩ := getS2 X1 hx hZ hown (Or.inr (wd 225 rfl)) Via.refl e1 (SM.ext O.2) (g := (mkF m 4 #[.val (.ref a)] [(.ref x1)])) rfl (hb hby d31_4)
  refine go_of (B := (T2.setTop (mkF m 7 #[.val (.ref a)] [(.ref wM), (.ref x1)]))) (st2) ?_
  refine go_of (B := (T2.setTop (mkF m 15 #[.val (.ref a)] [(.int (2 : Int32))]))) (fun _ kk => Jvm.RoadKit.acmp (g := (mkF m 7 #[.val (.ref a)] [(.ref wM), (.ref x1)])) X2 hx rfl rfl rfl (pc0 := 7) (pc' := 10) (same := false) rfl (hb hby d31_7) rfl (decide_eq_false fun q => hne (Value.ref.inj q)) (by decide) (by decide) (XS.iconst X2.here hx rfl (hb hby d31_10) (XS.goto X2.here hx rfl (pc0 := 11) (pc' := 15) rfl (hb hby d31_11) (by decide) (by decide) kk))) ?_
  refine go_end X2 (v := some (.int (2 : Int32))) (fun h => by rw [Bd.returns] at h; cases h) Bd.notSynchronized (by decide) (by decide) (Q := (Q_ls_2 Z a x0 x1 wM h0 n0)) ?_ (fun fs hr => own_retI X2 hx Bd.returns (hb hby d31_15) hr)
  unfold Q_ls_2
  try rw [e2]
  exact ⟨rfl, N0, rfl⟩
theorem d32_9 : decode jdk_44_method_5_code 9 = .ok (.iload_n 1, 1) := by decide +kernel
theorem d32_10 : decode jdk_44_method_5_code 10 = .ok (.iconst 1, 1) := by decide +kernel
theorem d32_11 : decode jdk_44_method_5_code 11 = .ok (.if_icmp .ne 18, 3) := by decide +kernel
theorem d32_14 : decode jdk_44_method_5_code 14 = .ok (.aload_n 0, 1) := by decide +kernel
theorem d32_15 : decode jdk_44_method_5_code 15 = .ok (.getfield 24, 3) := by decide +kernel
theorem d32_18 : decode jdk_44_method_5_code 18 = .ok (.getstatic 19, 3) := by decide +kernel
theorem d32_21 : decode jdk_44_method_5_code 21 = .ok (.if_acmp .eq 8, 3) := by decide +kernel
theorem d32_24 : decode jdk_44_method_5_code 24 = .ok (.aload_n 0, 1) := by decide +kernel
theorem d32_25 : decode jdk_44_method_5_code 25 = .ok (.getfield 24, 3) := by decide +kernel
theorem d32_28 : decode jdk_44_method_5_code 28 = .ok (.areturn, 1) := by decide +kernel
def Q_lg_2 (Z : State) (a : Addr) (x0 : Addr) (x1 : Addr) (wM : Addr) (h0 : Heap) (n0 : Nat) (v : Option Value) (h : Heap) (L : List Loc) : Prop := v = some (.ref x1) ∧ Fr n0 L ∧ h = h0
theorem ef_lg_2 (m : MethodId) (a : Addr)  : entryFrame m #[(.ref a), (.int (1 : Int32))] 2 = mkF m 0 #[.val (.ref a), .val (.int (1 : Int32))] [] := by first | (simp [entryFrame, mkF, argsToLocals, Value.category]; done) | rfl
theorem lg_2 (l : Launch) (Z : State) (a0 : Array Value) (hw : TW a0 Z) (ws : List Cond) (a : Addr) (x0 : Addr) (x1 : Addr) (wM : Addr) (h0 : Heap) (n0 : Nat) (Z0 : n0 ≤ h0.size) (O : Old Z n0 h0) (SM : Sta Z Z.heap "java/util/ImmutableCollections" "EMPTY" "Ljava/lang/Object;" (.ref wM)) (hne : x1 ≠ wM) (A : L2 Z h0 a x0 x1) :
    own_MF l Z MN21 jdk_44_method_5_code 2 (some (.object "java/lang/Object")) ws (own_R 0 0 0 0) #[(.ref a), (.int (1 : Int32))] h0 (Q_lg_2 Z a x0 x1 wM h0 n0) := by
  have wd := @own_wd _ _ hw
  refine MetFree.of_bodySF (plainFor_of_name pn_java_util_ImmutableCollections_List12) hisR ?_
  intro p e s m args below meth c s₁ Bd hml0 hP hK
  obtain ⟨rfl, hZ, hh⟩ := hP
  have hx := Bd.exec
  have hby := Bd.bytes
  have hml : c.maxLocals = 2 := hml0
  have hown : s.vm.findClass "java/util/ImmutableCollections$List12" = some m.cls := findClass_of_methodNamed Bd.named
  have hnm := (name_of_methodNamed Bd.named Bd.method).1
  have X0 : Stand p l e (own_R 0 0 0 0) s m #[(.ref a), (.int (1 : Int32))] below meth c s₁ [] 0 0 := Stand.of_body Bd
  have e0 : s₁.heap = h0 := by rw [← hh, Bd.state]; rfl
  have N0 := Fr.nil n0
  refine go_of (A := s₁.setTop (entryFrame m #[(.ref a), (.int (1 : Int32))] 2)) (B := s₁.setTop (mkF m 0 #[.val (.ref a), .val (.int (1 : Int32))] [])) (fun _ kk' => castTop (ef_lg_2 m a) kk') ?_
  refine go_of (B := (s₁.setTop (mkF m 15 #[.val (.ref a), .val (.int (1 : Int32))] [(.ref a)]))) (fun _ kk => XS.iloadN X0.here hx rfl (hb hby d32_0) rfl (XS.ifYes X0.here hx rfl (pc0 := 1) (pc' := 9) rfl (hb hby d32_1) rfl ((if0 _ _).trans (feq (by decide : ¬ ((1 : Int32) = (0 : Int32)))).2) (by decide) (by decide) (XS.iloadN X0.here hx rfl (hb hby d32_9) rfl (XS.iconst X0.here hx rfl (hb hby d32_10) (XS.icmpNo X0.here hx rfl (hb hby d32_11) rfl (teq (by decide : (1 : Int32) = (1 : Int32))).2 (XS.aloadN X0.here hx rfl (hb hby d32_14) rfl rfl kk)))))) ?_
  obtain ⟨T1, X1, e1, st1⟩ := getF X0 hx hZ hown (host := "") (Or.inl (wd 226 rfl)) Via.refl e0 A.2.2 (g := (mkF m 15 #[.val (.ref a), .val (.int (1 : Int32))] [(.ref a)])) rfl rfl (hb hby d32_15)
  refine go_of (B := (T1.setTop (mkF m 18 #[.val (.ref a), .val (.int (1 : Int32))] [(.ref x1)]))) (st1) ?_
  obtain ⟨T2, X2, e2, st2⟩ := getS2 X1 hx hZ hown (Or.inr (wd 225 rfl)) Via.refl e1 (SM.ext O.2) (g := (mkF m 18 #[.val (.ref a), .val (.int (1 : Int32))] [(.ref x1)])) rfl (hb hby d32_18)
  refine go_of (B := (T2.setTop (mkF m 21 #[.val (.ref a), .val (.int (1 : Int32))] [(.ref wM), (.ref x1)]))) (st2) ?_
  refine go_of (B := (T2.setTop (mkF m 25 #[.val (.ref a), .val (.int (1 : Int32))] [(.ref a)]))) (fun _ kk => Jvm.RoadKit.acmp (g := (mkF m 21 #[.val (.ref a), .val (.int (1 : Int32))] [(.ref wM), (.ref x1)])) X2 hx rfl rfl rfl (pc0 := 21) (pc' := 24) (same := false) rfl (hb hby d32_21) rfl (decide_eq_false fun q => hne (Value.ref.inj q)) (by decide) (by decide) (XS.aloadN X2.here hx rfl (hb hby d32_24) rfl rfl kk)) ?_
  obtain ⟨T3, X3, e3, st3⟩ := getF X2 hx hZ hown (host := "") (Or.inl (wd 226 rfl)) Via.refl e2 A.2.2 (g := (mkF m 25 #[.val (.ref a), .val (.int (1 : Int32))] [(.ref a)])) rfl rfl (hb hby d32_25)
  refine go_of (B := (T3.setTop (mkF m 28 #[.val (.ref a), .val (.int (1 : Int32))] [(.ref x1)]))) (st3) ?_
  refine go_end X3 (v := some (.ref x1)) (fun h => by rw [Bd.returns] at h; cases h) Bd.notSynchronized (by decide) (by decide) (Q := (Q_lg_2 Z a x0 x1 wM h0 n0)) ?_ (fun fs hr => own_retA X3 hx Bd.returns rfl rfl (hb hby d32_28) hr)
  unfold Q_lg_2
  try rw [e3]
  exact ⟨rfl, N0, rfl⟩
def Q_lim_2 (Z : State) (a : Addr) (al : Addr) (v0 : Value) (d : Addr) (mc : Int32) (kD : ClassId) (x0 : Addr) (x1 : Addr) (mr : Addr) (wM : Addr) (rl : Addr) (h0 : Heap) (n0 : Nat) (v : Option Value) (h : Heap) (L : List Loc) : Prop := ∃ (t : Addr), v = none ∧ Fr n0 L ∧ h0.size ≤ t ∧ Keep h0 h [a] ∧ Exa Z h a "com/example/wombat/wombat/rules/Limit" ∧ Fld Z h a "com/example/wombat/wombat/rules/Limit" "descriptors" "Ljava/util/List;" (.ref t) ∧ L2 Z h t x0 x1
theorem ef_lim_2 (m : MethodId) (a : Addr) (al : Addr)  : entryFrame m #[(.ref a), (.ref al)] 2 = mkF m 0 #[.val (.ref a), .val (.ref al)] [] := by first | (simp [entryFrame, mkF, argsToLocals, Value.category]; done) | rfl
theorem lim_2 (l : Launch) (Z : State) (a0 : Array Value) (hw : TW a0 Z) (ws : List Cond) (a : Addr) (al : Addr) (v0 : Value) (d : Addr) (mc : Int32) (kD : ClassId) (x0 : Addr) (x1 : Addr) (mr : Addr) (wM : Addr) (rl : Addr) (h0 : Heap) (n0 : Nat) (Z0 : n0 ≤ h0.size) (O : Old Z n0 h0) (SM : Sta Z Z.heap "java/util/ImmutableCollections" "EMPTY" "Ljava/lang/Object;" (.ref wM)) (A : AL Z h0 al mc d 2) (M : own_Mir Z "[Ljava/lang/Object;" mr) (VD : Arv Z h0 d kD (.object "java/lang/Object") 10 [.ref x0, .ref x1, .null, .null, .null, .null, .null, .null, .null, .null] .null) (Ix0 : Ins Z h0 x0 "java/lang/Object" true) (Ix1 : Ins Z h0 x1 "java/lang/Object" true) (ED : Exa Z h0 d "[Ljava/lang/Object;") (hne : x1 ≠ wM) (Ea : Exa Z h0 a "com/example/wombat/wombat/rules/Limit") (Fa0 : Fld Z h0 a "com/example/wombat/wombat/rules/Limit" "descriptors" "Ljava/util/List;" v0) (g : n0 ≤ a) (Ed : Exa Z h0 x1 "com/example/wombat/wombat/rules/Descriptor") (Fd : Fld Z h0 x1 "com/example/wombat/wombat/rules/Descriptor" "rateLimit" "Lcom/example/wombat/wombat/rules/RateLimit;" (.ref rl)) :
    own_MF l Z MN3 prog_28_method_1_code 2 none ws (own_R 8 2 4 101) #[(.ref a), (.ref al)] h0 (Q_lim_2 Z a al v0 d mc kD x0 x1 mr wM rl h0 n0) := by
  have wd := @own_wd _ _ hw
  refine MetFree.of_bodySF (plainFor_of_name pn_com_example_wombat_wombat_rules_Limit) hisR ?_
  intro p e s m args below meth c s₁ Bd hml0 hP hK
  obtain ⟨rfl, hZ, hh⟩ := hP
  have hx := Bd.exec
  have hby := Bd.bytes
  have hml : c.maxLocals = 2 := hml0
  have hown : s.vm.findClass "com/example/wombat/wombat/rules/Limit" = some m.cls := findClass_of_methodNamed Bd.named
  have hnm := (name_of_methodNamed Bd.named Bd.method).1
  have X0 : Stand p l e (own_R 8 2 4 101) s m #[(.ref a), (.ref al)] below meth c s₁ [] 0 0 := Stand.of_body Bd
  have e0 : s₁.heap = h0 := by rw [← hh, Bd.state]; rfl
  have N0 := Fr.nil n0
  have lta := own_nlt (Ea.lt)
  have lta' := own_nlt (A.1.lt)
  have ltx := own_nlt (Ed.lt)
  refine go_of (A := s₁.setTop (entryFrame m #[(.ref a), (.ref al)] 2)) (B := s₁.setTop (mkF m 0 #[.val (.ref a), .val (.ref al)] [])) (fun _ kk' => castTop (ef_lim_2 m a al) kk') ?_
  refine go_of (B := (s₁.setTop (mkF m 1 #[.val (.ref a), .val (.ref al)] [(.ref a)]))) (fun _ kk => XS.aloadN X0.here hx rfl (hb hby d19_0) rfl rfl kk) ?_
  obtain ⟨_, _, ⟨T1, L1, k1, n1⟩, -, X1, ⟨Lc1, hQ1, l1, y1, z1⟩, st1⟩ := X0.specialBack hx (y := MN8) rfl hown (mvT hZ (wd 153 rfl)) (mvT hZ (wd 16 rfl)) (mvT hZ (wd 19 rfl)) (by decide) (backOf (W := 0) (rm3 l Z a0 hw [] a h0 n0 (by omega)) hZ (wd 19 rfl) (wd 18 rfl) (by decide) (by decide)) (g := (mkF m 1 #[.val (.ref a), .val (.ref al)] [(.ref a)])) rfl (by rw [hml]; rfl) (Steps.refl _) (a := a) (argsL := []) (rest := []) (lenOf pd___V rfl) rfl (Nat.le_of_eq rfl) (hb hby d19_1) (fun _ _ => ⟨rfl, e0, (by decide : 0 + 0 ≤ _), (by decide : 0 + 0 ≤ _)⟩)
  dsimp only [Pt.U, Pt.locs, Pt.cells, Pt.slots] at X1 l1 y1 z1 st1 hQ1
  subst l1 y1 z1
  obtain ⟨rfl, N1q, e1⟩ := hQ1
  have N1 := Fr.app N0 N1q
  refine go_tr (B := (T1.setTop (mkF m 4 #[.val (.ref a), .val (.ref al)] []))) (st1) ?_
  refine go_of (B := (T1.setTop (mkF m 5 #[.val (.ref a), .val (.ref al)] [(.ref al)]))) (fun _ kk => XS.aloadN X1.here hx rfl (hb hby d19_4) rfl rfl kk) ?_
  obtain ⟨_, _, ⟨T2, L2, k2, n2⟩, -, X2, ⟨Lc2, hQ2, l2, y2, z2⟩, st2⟩ := Jvm.LawKit.callS X1 hx (y := MN26) hown (mvT hZ (wd 154 rfl)) (mvT hZ (wd 65 rfl)) (mvT hZ (wd 51 rfl)) (mvT hZ (wd 66 rfl)) (by decide) (backOf (W := 0) (co_2 l Z a0 hw [] al d mc kD x0 x1 mr wM h0 n0 (by omega) O SM A M VD Ix0 Ix1 ED) hZ (wd 66 rfl) (wd 51 rfl) (by decide) (by decide)) (g := (mkF m 5 #[.val (.ref a), .val (.ref al)] [(.ref al)])) rfl (by rw [hml]; rfl) (argsL := [(.ref al)]) (rest := []) (lenOf pd__Ljava_util_Collection__Ljava_util_List_ rfl) rfl (Nat.le_of_eq rfl) (hb hby d19_5) (fun _ _ => ⟨rfl, e1, (by decide : 0 + 2 ≤ _), (by decide : 0 + 4 ≤ _)⟩)
  dsimp only [Pt.U, Pt.locs, Pt.cells, Pt.slots] at X2 l2 y2 z2 st2 hQ2
  subst l2 y2 z2
  obtain ⟨b2, rfl, N2q, lo2, K2, A2⟩ := hQ2
  have lo2 := own_nle lo2
  have N2 := Fr.app N1 N2q
  have hi2 := own_nlt (A2.1.lt)
  have sz2 := K2.1
  refine go_of (B := (T2.setTop (mkF m 8 #[.val (.ref a), .val (.ref al)] [(.ref b2)]))) (st2) ?_
  refine go_of (B := (T2.setTop (mkF m 10 #[.val (.ref a), .val (.ref b2)] [(.ref b2)]))) (fun _ kk => XS.astoreN X2.here hx rfl (hb hby d19_8) rfl rfl rfl (XS.aloadN X2.here hx rfl (hb hby d19_9) rfl rfl kk)) ?_
  have cf_3 := (O.keep K2 all0)
  obtain ⟨cq4, kq4, q4a, q4b, q4c⟩ := isOf hZ rfl A2.1
  obtain ⟨_, _, ⟨T4, L4, k4, n4⟩, -, X4, ⟨Lc4, hQ4, l4, y4, z4⟩, st4⟩ := X2.interfaceBack hx (xi := MN28) (y := MN22) hown (mvT hZ (wd 228 rfl)) (mvT hZ (wd 229 rfl)) (mvT hZ (wd 230 rfl)) (mvT hZ (wd 231 rfl)) (mvT hZ (wd 232 rfl)) (mvT hZ (wd 233 rfl)) (mvT hZ (wd 234 rfl)) (mvT hZ (wd 235 rfl)) (by decide) (backOf (W := 0) (li_2 l Z a0 hw [] b2 x0 x1 wM T2.heap n0 (by omega) cf_3 SM hne ⟨A2.1, A2.2.1, A2.2.2⟩) hZ (wd 236 rfl) (wd 201 rfl) (by decide) (by decide)) q4a q4b q4c (g := (mkF m 10 #[.val (.ref a), .val (.ref b2)] [(.ref b2)])) rfl (by rw [hml]; rfl) (Steps.refl _) (argsL := []) (rest := []) (lenOf pd___Z rfl) rfl (Nat.le_of_eq rfl) (hb hby d19_10) (fun _ _ => ⟨rfl, rfl, (by decide : 2 + 0 ≤ _), (by decide : 4 + 0 ≤ _)⟩)
  dsimp only [Pt.U, Pt.locs, Pt.cells, Pt.slots] at X4 l4 y4 z4 st4 hQ4
  subst l4 y4 z4
  obtain ⟨rfl, N4q, e4⟩ := hQ4
  have N4 := Fr.app N2 N4q
  refine go_tr (B := (T4.setTop (mkF m 15 #[.val (.ref a), .val (.ref b2)] [(.int (0 : Int32))]))) (st4) ?_
  refine go_of (B := (T4.setTop (mkF m 20 #[.val (.ref a), .val (.ref b2)] [(.ref b2), (.ref b2)]))) (fun _ kk => XS.ifNo X4.here hx rfl (hb hby d19_15) rfl ((if0 _ _).trans (teq (by decide : (0 : Int32) = (0 : Int32))).2) (XS.aloadN X4.here hx rfl (hb hby d19_18) rfl rfl (XS.aloadN X4.here hx rfl (hb hby d19_19) rfl rfl kk))) ?_
  obtain ⟨cq5, kq5, q5a, q5b, q5c⟩ := isOf hZ e4 A2.1
  obtain ⟨_, _, ⟨T5, L5, k5, n5⟩, -, X5, ⟨Lc5, hQ5, l5, y5, z5⟩, st5⟩ := X4.interfaceBack hx (xi := MN31) (y := MN23) hown (mvT hZ (wd 237 rfl)) (mvT hZ (wd 238 rfl)) (mvT hZ (wd 239 rfl)) (mvT hZ (wd 240 rfl)) (mvT hZ (wd 241 rfl)) (mvT hZ (wd 242 rfl)) (mvT hZ (wd 243 rfl)) (mvT hZ (wd 235 rfl)) (by decide) (backOf (W := 1) (ls_2 l Z a0 hw [] b2 x0 x1 wM T2.heap n0 (by omega) cf_3 SM hne ⟨A2.1, A2.2.1, A2.2.2⟩) hZ (wd 244 rfl) (wd 201 rfl) (by decide) (by decide)) q5a q5b q5c (g := (mkF m 20 #[.val (.ref a), .val (.ref b2)] [(.ref b2), (.ref b2)])) rfl (by rw [hml]; rfl) (Steps.refl _) (argsL := []) (rest := [(.ref b2)]) (lenOf pd___I rfl) rfl (Nat.le_of_eq rfl) (hb hby d19_20) (fun _ _ => ⟨rfl, e4, (by decide : 2 + 0 ≤ _), (by decide : 4 + 0 ≤ _)⟩)
  dsimp only [Pt.U, Pt.locs, Pt.cells, Pt.slots] at X5 l5 y5 z5 st5 hQ5
  subst l5 y5 z5
  obtain ⟨rfl, N5q, e5⟩ := hQ5
  have N5 := Fr.app N4 N5q
  refine go_tr (B := (T5.setTop (mkF m 25 #[.val (.ref a), .val (.ref b2)] [(.int (2 : Int32)), (.ref b2)]))) (st5) ?_
  refine go_of (B := (T5.setTop (mkF m 27 #[.val (.ref a), .val (.ref b2)] [(.int (1 : Int32)), (.ref b2)]))) (fun _ kk => XS.iconst X5.here hx rfl (hb hby d19_25) (XS.isub X5.here hx rfl (hb hby d19_26) rfl kk)) ?_
  obtain ⟨cq6, kq6, q6a, q6b, q6c⟩ := isOf hZ e5 A2.1
  obtain ⟨_, _, ⟨T6, L6, k6, n6⟩, -, X6, ⟨Lc6, hQ6, l6, y6, z6⟩, st6⟩ := X5.interfaceBack hx (xi := MN27) (y := MN21) hown (mvT hZ (wd 245 rfl)) (mvT hZ (wd 246 rfl)) (mvT hZ (wd 247 rfl)) (mvT hZ (wd 248 rfl)) (mvT hZ (wd 249 rfl)) (mvT hZ (wd 250 rfl)) (mvT hZ (wd 251 rfl)) (mvT hZ (wd 235 rfl)) (by decide) (backOf (W := 0) (lg_2 l Z a0 hw [] b2 x0 x1 wM T2.heap n0 (by omega) cf_3 SM hne ⟨A2.1, A2.2.1, A2.2.2⟩) hZ (wd 252 rfl) (wd 201 rfl) (by decide) (by decide)) q6a q6b q6c (g := (mkF m 27 #[.val (.ref a), .val (.ref b2)] [(.int (1 : Int32)), (.ref b2)])) rfl (by rw [hml]; rfl) (Steps.refl _) (argsL := [(.int (1 : Int32))]) (rest := []) (lenOf pd__I_Ljava_lang_Object_ rfl) rfl (Nat.le_of_eq rfl) (hb hby d19_27) (fun _ _ => ⟨rfl, e5, (by decide : 2 + 0 ≤ _), (by decide : 4 + 0 ≤ _)⟩)
  dsimp only [Pt.U, Pt.locs, Pt.cells, Pt.slots] at X6 l6 y6 z6 st6 hQ6
  subst l6 y6 z6
  obtain ⟨rfl, N6q, e6⟩ := hQ6
  have N6 := Fr.app N5 N6q
  refine go_tr (B := (T6.setTop (mkF m 32 #[.val (.ref a), .val (.ref b2)] [(.ref x1)]))) (st6) ?_
  have cf_8 := (Ed.keep K2)
  obtain ⟨T7, X7, e7, st7⟩ := castY X6 hx hZ hown (wd 253 rfl) e6 (Ins.self cf_8) (g := (mkF m 32 #[.val (.ref a), .val (.ref b2)] [(.ref x1)])) rfl rfl (hb hby d19_32)
  refine go_of (B := (T7.setTop (mkF m 35 #[.val (.ref a), .val (.ref b2)] [(.ref x1)]))) (st7) ?_
  have cf_9 := (Fd.keep K2 nin0)
  obtain ⟨cq10, kq10, q10a, q10b, q10c⟩ := isOf hZ e7 cf_8
  obtain ⟨_, _, ⟨T10, L10, k10, n10⟩, -, X10, ⟨Lc10, hQ10, l10, y10, z10⟩, st10⟩ := X7.virtualBack hx (y := MN2) (z := MN2) hown (mvT hZ (wd 255 rfl)) (mvT hZ (wd 256 rfl)) (notFace_of_selects (args := #[]) (mvT hZ (wd 258 rfl))) (mvT hZ (wd 258 rfl)) (mvT hZ (wd 257 rfl)) (by decide) (backOf (W := 0) (dsr l Z a0 hw [] x1 rl T2.heap n0 (by omega) cf_9) hZ (wd 259 rfl) (wd 37 rfl) (by decide) (by decide)) q10a q10c (g := (mkF m 35 #[.val (.ref a), .val (.ref b2)] [(.ref x1)])) rfl (by rw [hml]; rfl) (Steps.refl _) (argsL := []) (rest := []) (lenOf pd___Lcom_example_wombat_wombat_rules_RateLimit_ rfl) rfl (Nat.le_of_eq rfl) (hb hby d19_35) (fun _ _ => ⟨rfl, e7, (by decide : 2 + 0 ≤ _), (by decide : 4 + 0 ≤ _)⟩)
  dsimp only [Pt.U, Pt.locs, Pt.cells, Pt.slots] at X10 l10 y10 z10 st10 hQ10
  subst l10 y10 z10
  obtain ⟨rfl, N10q, e10⟩ := hQ10
  have N10 := Fr.app N6 N10q
  refine go_tr (B := (T10.setTop (mkF m 38 #[.val (.ref a), .val (.ref b2)] [(.ref rl)]))) (st10) ?_
  refine go_of (B := (T10.setTop (mkF m 53 #[.val (.ref a), .val (.ref b2)] [(.ref b2), (.ref a)]))) (fun _ kk => XS.ifnonnullYes X10.here hx rfl (pc0 := 38) (pc' := 51) rfl (hb hby d19_38) rfl (by decide) (by decide) (XS.aloadN X10.here hx rfl (hb hby d19_51) rfl rfl (XS.aloadN X10.here hx rfl (hb hby d19_52) rfl rfl kk))) ?_
  have cf_11 := (Ea.keep K2)
  have cf_12 := (Fa0.keep K2 nin0)
  obtain ⟨T13, h13, X13, e13, W13, st13⟩ := putF X10 hx hZ hown (host := "") (Or.inl (wd 260 rfl)) Via.refl e10 cf_12 cf_11 (Or.inr ⟨(wd 261 rfl), rfl, hnm⟩) (wd 148 rfl) (ty := (.object "java/util/List")) (by decide) rfl rfl (g := (mkF m 53 #[.val (.ref a), .val (.ref b2)] [(.ref b2), (.ref a)])) rfl rfl (hb hby d19_53)
  have sz13 := W13.size
  have Fw13 := cf_12.same W13
  have N13 := Fr.snoc X13 N10 (g : n0 ≤ a)
  refine go_of (B := (T13.setTop (mkF m 56 #[.val (.ref a), .val (.ref b2)] []))) (st13) ?_
  have cf_14 := (cf_11.wr W13)
  have cf_15 := (A2.1.wr W13)
  have cf_16 := (A2.2.1.other W13 (Or.inl (by first | omega | exact own_ne (by omega) | exact own_le (by omega))))
  have cf_17 := (A2.2.2.other W13 (Or.inl (by first | omega | exact own_ne (by omega) | exact own_le (by omega))))
  refine go_end X13 (v := none) (fun _ => rfl) Bd.notSynchronized (by decide) (by decide) (Q := (Q_lim_2 Z a al v0 d mc kD x0 x1 mr wM rl h0 n0)) ?_ (fun fs hr => X13.returnOut hx Bd.returns (hb hby d19_56) hr)
  unfold Q_lim_2
  try rw [e13]
  exact ⟨b2, rfl, N13, by omega, (((Keep.refl h0 [a]).trans K2 all0).wr W13 (Or.inl (List.mem_of_getElem? (i := 0) rfl))), cf_14, Fw13, ⟨cf_15, cf_16, cf_17⟩⟩
def Q_lr_2 (Z : State) (a : Addr) (t : Addr) (x0 : Addr) (x1 : Addr) (wM : Addr) (rl : Addr) (h0 : Heap) (n0 : Nat) (v : Option Value) (h : Heap) (L : List Loc) : Prop := v = some (.ref rl) ∧ Fr n0 L ∧ h = h0
theorem ef_lr_2 (m : MethodId) (a : Addr)  : entryFrame m #[(.ref a)] 1 = mkF m 0 #[.val (.ref a)] [] := by first | (simp [entryFrame, mkF, argsToLocals, Value.category]; done) | rfl
theorem lr_2 (l : Launch) (Z : State) (a0 : Array Value) (hw : TW a0 Z) (ws : List Cond) (a : Addr) (t : Addr) (x0 : Addr) (x1 : Addr) (wM : Addr) (rl : Addr) (h0 : Heap) (n0 : Nat) (Z0 : n0 ≤ h0.size) (O : Old Z n0 h0) (SM : Sta Z Z.heap "java/util/ImmutableCollections" "EMPTY" "Ljava/lang/Object;" (.ref wM)) (hne : x1 ≠ wM) (Fl : Fld Z h0 a "com/example/wombat/wombat/rules/Limit" "descriptors" "Ljava/util/List;" (.ref t)) (A : L2 Z h0 t x0 x1) (Ed : Exa Z h0 x1 "com/example/wombat/wombat/rules/Descriptor") (Fd : Fld Z h0 x1 "com/example/wombat/wombat/rules/Descriptor" "rateLimit" "Lcom/example/wombat/wombat/rules/RateLimit;" (.ref rl)) :
    own_MF l Z MN4 prog_28_method_2_code 1 (some (.object "com/example/wombat/wombat/rules/RateLimit")) ws (own_R 1 0 0 13) #[(.ref a)] h0 (Q_lr_2 Z a t x0 x1 wM rl h0 n0) := by
  have wd := @own_wd _ _ hw
  refine MetFree.of_bodySF (plainFor_of_name pn_com_example_wombat_wombat_rules_Limit) hisR ?_
  intro p e s m args below meth c s₁ Bd hml0 hP hK
  obtain ⟨rfl, hZ, hh⟩ := hP
  have hx := Bd.exec
  have hby := Bd.bytes
  have hml : c.maxLocals = 1 := hml0
  have hown : s.vm.findClass "com/example/wombat/wombat/rules/Limit" = some m.cls := findClass_of_methodNamed Bd.named
  have hnm := (name_of_methodNamed Bd.named Bd.method).1
  have X0 : Stand p l e (own_R 1 0 0 13) s m #[(.ref a)] below meth c s₁ [] 0 0 := Stand.of_body Bd
  have e0 : s₁.heap = h0 := by rw [← hh, Bd.state]; rfl
  have N0 := Fr.nil n0
  refine go_of (A := s₁.setTop (entryFrame m #[(.ref a)] 1)) (B := s₁.setTop (mkF m 0 #[.val (.ref a)] [])) (fun _ kk' => castTop (ef_lr_2 m a) kk') ?_
  refine go_of (B := (s₁.setTop (mkF m 1 #[.val (.ref a)] [(.ref a)]))) (fun _ kk => XS.aloadN X0.here hx rfl (hb hby d34_0) rfl rfl kk) ?_
  obtain ⟨T1, X1, e1, st1⟩ := getF X0 hx hZ hown (host := "") (Or.inl (wd 260 rfl)) Via.refl e0 Fl (g := (mkF m 1 #[.val (.ref a)] [(.ref a)])) rfl rfl (hb hby d34_1)
  refine go_of (B := (T1.setTop (mkF m 4 #[.val (.ref a)] [(.ref t)]))) (st1) ?_
  refine go_of (B := (T1.setTop (mkF m 5 #[.val (.ref a)] [(.ref a), (.ref t)]))) (fun _ kk => XS.aloadN X1.here hx rfl (hb hby d34_4) rfl rfl kk) ?_
  obtain ⟨T2, X2, e2, st2⟩ := getF X1 hx hZ hown (host := "") (Or.inl (wd 260 rfl)) Via.refl e1 Fl (g := (mkF m 5 #[.val (.ref a)] [(.ref a), (.ref t)])) rfl rfl (hb hby d34_5)
  refine go_of (B := (T2.setTop (mkF m 8 #[.val (.ref a)] [(.ref t), (.ref t)]))) (st2) ?_
  obtain ⟨cq3, kq3, q3a, q3b, q3c⟩ := isOf hZ e2 A.1
  obtain ⟨_, _, ⟨T3, L3, k3, n3⟩, -, X3, ⟨Lc3, hQ3, l3, y3, z3⟩, st3⟩ := X2.interfaceBack hx (xi := MN31) (y := MN23) hown (mvT hZ (wd 237 rfl)) (mvT hZ (wd 238 rfl)) (mvT hZ (wd 239 rfl)) (mvT hZ (wd 240 rfl)) (mvT hZ (wd 241 rfl)) (mvT hZ (wd 242 rfl)) (mvT hZ (wd 243 rfl)) (mvT hZ (wd 235 rfl)) (by decide) (backOf (W := 1) (ls_2 l Z a0 hw [] t x0 x1 wM h0 n0 (by omega) O SM hne ⟨A.1, A.2.1, A.2.2⟩) hZ (wd 244 rfl) (wd 201 rfl) (by decide) (by decide)) q3a q3b q3c (g := (mkF m 8 #[.val (.ref a)] [(.ref t), (.ref t)])) rfl (by rw [hml]; rfl) (Steps.refl _) (argsL := []) (rest := [(.ref t)]) (lenOf pd___I rfl) rfl (Nat.le_of_eq rfl) (hb hby d34_8) (fun _ _ => ⟨rfl, e2, (by decide : 0 + 0 ≤ _), (by decide : 0 + 0 ≤ _)⟩)
  dsimp only [Pt.U, Pt.locs, Pt.cells, Pt.slots] at X3 l3 y3 z3 st3 hQ3
  subst l3 y3 z3
  obtain ⟨rfl, N3q, e3⟩ := hQ3
  have N3 := Fr.app N0 N3q
  refine go_tr (B := (T3.setTop (mkF m 13 #[.val (.ref a)] [(.int (2 : Int32)), (.ref t)]))) (st3) ?_
  refine go_of (B := (T3.setTop (mkF m 15 #[.val (.ref a)] [(.int (1 : Int32)), (.ref t)]))) (fun _ kk => XS.iconst X3.here hx rfl (hb hby d34_13) (XS.isub X3.here hx rfl (hb hby d34_14) rfl kk)) ?_
  obtain ⟨cq4, kq4, q4a, q4b, q4c⟩ := isOf hZ e3 A.1
  obtain ⟨_, _, ⟨T4, L4, k4, n4⟩, -, X4, ⟨Lc4, hQ4, l4, y4, z4⟩, st4⟩ := X3.interfaceBack hx (xi := MN27) (y := MN21) hown (mvT hZ (wd 245 rfl)) (mvT hZ (wd 246 rfl)) (mvT hZ (wd 247 rfl)) (mvT hZ (wd 248 rfl)) (mvT hZ (wd 249 rfl)) (mvT hZ (wd 250 rfl)) (mvT hZ (wd 251 rfl)) (mvT hZ (wd 235 rfl)) (by decide) (backOf (W := 0) (lg_2 l Z a0 hw [] t x0 x1 wM h0 n0 (by omega) O SM hne ⟨A.1, A.2.1, A.2.2⟩) hZ (wd 252 rfl) (wd 201 rfl) (by decide) (by decide)) q4a q4b q4c (g := (mkF m 15 #[.val (.ref a)] [(.int (1 : Int32)), (.ref t)])) rfl (by rw [hml]; rfl) (Steps.refl _) (argsL := [(.int (1 : Int32))]) (rest := []) (lenOf pd__I_Ljava_lang_Object_ rfl) rfl (Nat.le_of_eq rfl) (hb hby d34_15) (fun _ _ => ⟨rfl, e3, (by decide : 0 + 0 ≤ _), (by decide : 0 + 0 ≤ _)⟩)
  dsimp only [Pt.U, Pt.locs, Pt.cells, Pt.slots] at X4 l4 y4 z4 st4 hQ4
  subst l4 y4 z4
  obtain ⟨rfl, N4q, e4⟩ := hQ4
  have N4 := Fr.app N3 N4q
  refine go_tr (B := (T4.setTop (mkF m 20 #[.val (.ref a)] [(.ref x1)]))) (st4) ?_
  obtain ⟨T5, X5, e5, st5⟩ := castY X4 hx hZ hown (wd 253 rfl) e4 (Ins.self Ed) (g := (mkF m 20 #[.val (.ref a)] [(.ref x1)])) rfl rfl (hb hby d34_20)
  refine go_of (B := (T5.setTop (mkF m 23 #[.val (.ref a)] [(.ref x1)]))) (st5) ?_
  obtain ⟨cq6, kq6, q6a, q6b, q6c⟩ := isOf hZ e5 Ed
  obtain ⟨_, _, ⟨T6, L6, k6, n6⟩, -, X6, ⟨Lc6, hQ6, l6, y6, z6⟩, st6⟩ := X5.virtualBack hx (y := MN2) (z := MN2) hown (mvT hZ (wd 255 rfl)) (mvT hZ (wd 256 rfl)) (notFace_of_selects (args := #[]) (mvT hZ (wd 258 rfl))) (mvT hZ (wd 258 rfl)) (mvT hZ (wd 257 rfl)) (by decide) (backOf (W := 0) (dsr l Z a0 hw [] x1 rl h0 n0 (by omega) Fd) hZ (wd 259 rfl) (wd 37 rfl) (by decide) (by decide)) q6a q6c (g := (mkF m 23 #[.val (.ref a)] [(.ref x1)])) rfl (by rw [hml]; rfl) (Steps.refl _) (argsL := []) (rest := []) (lenOf pd___Lcom_example_wombat_wombat_rules_RateLimit_ rfl) rfl (Nat.le_of_eq rfl) (hb hby d34_23) (fun _ _ => ⟨rfl, e5, (by decide : 0 + 0 ≤ _), (by decide : 0 + 0 ≤ _)⟩)
  dsimp only [Pt.U, Pt.locs, Pt.cells, Pt.slots] at X6 l6 y6 z6 st6 hQ6
  subst l6 y6 z6
  obtain ⟨rfl, N6q, e6⟩ := hQ6
  have N6 := Fr.app N4 N6q
  refine go_tr (B := (T6.setTop (mkF m 26 #[.val (.ref a)] [(.ref rl)]))) (st6) ?_
  refine go_end X6 (v := some (.ref rl)) (fun h => by rw [Bd.returns] at h; cases h) Bd.notSynchronized (by decide) (by decide) (Q := (Q_lr_2 Z a t x0 x1 wM rl h0 n0)) ?_ (fun fs hr => own_retA X6 hx Bd.returns rfl rfl (hb hby d34_26) hr)
  unfold Q_lr_2
  try rw [e6]
  exact ⟨rfl, N6, rfl⟩
def Q_cp3_3 (Z : State) (d : Addr) (mr : Addr) (kD : ClassId) (x0 : Addr) (x1 : Addr) (x2 : Addr) (h0 : Heap) (n0 : Nat) (v : Option Value) (h : Heap) (L : List Loc) : Prop := ∃ (t : Addr) (k : ClassId), v = some (.ref t) ∧ Fr n0 L ∧ h0.size ≤ t ∧ Keep h0 h [] ∧ Arv Z h t k (.object "java/lang/Object") 3 [.ref x0, .ref x1, .ref x2] .null
theorem ef_cp3_3 (m : MethodId) (d : Addr) (mr : Addr)  : entryFrame m #[(.ref d), (.int (3 : Int32)), (.ref mr)] 4 = mkF m 0 #[.val (.ref d), .val (.int (3 : Int32)), .val (.ref mr), .unset] [] := by first | (simp [entryFrame, mkF, argsToLocals, Value.category]; done) | rfl
theorem cp3_3 (l : Launch) (Z : State) (a0 : Array Value) (hw : TW a0 Z) (ws : List Cond) (d : Addr) (mr : Addr) (kD : ClassId) (x0 : Addr) (x1 : Addr) (x2 : Addr) (h0 : Heap) (n0 : Nat) (Z0 : n0 ≤ h0.size) (M : own_Mir Z "[Ljava/lang/Object;" mr) (VD : Arv Z h0 d kD (.object "java/lang/Object") 10 [.ref x0, .ref x1, .ref x2, .null, .null, .null, .null, .null, .null, .null] .null) (Ix0 : Ins Z h0 x0 "java/lang/Object" true) (Ix1 : Ins Z h0 x1 "java/lang/Object" true) (Ix2 : Ins Z h0 x2 "java/lang/Object" true) :
    own_MF l Z MN16 jdk_65_method_120_code 4 (some (.array (.object "java/lang/Object"))) ws (own_R 1 1 3 18) #[(.ref d), (.int (3 : Int32)), (.ref mr)] h0 (Q_cp3_3 Z d mr kD x0 x1 x2 h0 n0) := by
  have wd := @own_wd _ _ hw
  refine MetFree.of_bodySF (plainFor_of_name pn_java_util_Arrays) hisR ?_
  intro p e s m args below meth c s₁ Bd hml0 hP hK
  obtain ⟨rfl, hZ, hh⟩ := hP
  have hx := Bd.exec
  have hby := Bd.bytes
  have hml : c.maxLocals = 4 := hml0
  have hown : s.vm.findClass "java/util/Arrays" = some m.cls := findClass_of_methodNamed Bd.named
  have hnm := (name_of_methodNamed Bd.named Bd.method).1
  have X0 : Stand p l e (own_R 1 1 3 18) s m #[(.ref d), (.int (3 : Int32)), (.ref mr)] below meth c s₁ [] 0 0 := Stand.of_body Bd
  have e0 : s₁.heap = h0 := by rw [← hh, Bd.state]; rfl
  have N0 := Fr.nil n0
  have ltd := own_nlt (VD.lt)
  refine go_of (A := s₁.setTop (entryFrame m #[(.ref d), (.int (3 : Int32)), (.ref mr)] 4)) (B := s₁.setTop (mkF m 0 #[.val (.ref d), .val (.int (3 : Int32)), .val (.ref mr), .unset] [])) (fun _ kk' => castTop (ef_cp3_3 m d mr) kk') ?_
  refine go_of (B := (s₁.setTop (mkF m 1 #[.val (.ref d), .val (.int (3 : Int32)), .val (.ref mr), .unset] [(.ref mr)]))) (fun _ kk => XS.aloadN X0.here hx rfl (hb hby d23_0) rfl rfl kk) ?_
  obtain ⟨vm1, X1, st1⟩ := X0.ldcMirror hx hown (mvT hZ (wd 187 rfl)) (own_mirT (own_mirS hZ M)) (g := (mkF m 1 #[.val (.ref d), .val (.int (3 : Int32)), .val (.ref mr), .unset] [(.ref mr)])) rfl (hb hby d23_1)
  have e1 : (s₁.setVm vm1).heap = h0 := e0
  refine go_of (B := ((s₁.setVm vm1).setTop (mkF m 3 #[.val (.ref d), .val (.int (3 : Int32)), .val (.ref mr), .unset] [(.ref mr), (.ref mr)]))) (st1) ?_
  refine go_of (B := ((s₁.setVm vm1).setTop (mkF m 7 #[.val (.ref d), .val (.int (3 : Int32)), .val (.ref mr), .unset] [(.int (3 : Int32))]))) (fun _ kk => Jvm.RoadKit.acmp (g := (mkF m 3 #[.val (.ref d), .val (.int (3 : Int32)), .val (.ref mr), .unset] [(.ref mr), (.ref mr)])) X1 hx rfl rfl rfl (pc0 := 3) (pc' := 6) (same := true) rfl (hb hby d23_3) rfl (decide_eq_true rfl) (by decide) (by decide) (XS.iloadN X1.here hx rfl (hb hby d23_6) rfl kk)) ?_
  obtain ⟨T2, h2, k2, X2, e2, E2, A2, O2, st2⟩ := newR X1 hx hZ hown (wd 188 rfl) (wd 145 rfl) e1 (g := (mkF m 7 #[.val (.ref d), .val (.int (3 : Int32)), .val (.ref mr), .unset] [(.int (3 : Int32))])) rfl (hb hby d23_7) rfl (by decide) (cap := 3) (by decide) (by decide) (by decide) (by decide)
  obtain ⟨b2, g2⟩ : ∃ z, z = h0.size := ⟨_, rfl⟩
  rw [← g2] at A2 st2
  have hi2 := own_nlt A2.lt
  have sz2 := E2.1
  have V2 : Arv Z h2 b2 k2 (.object "java/lang/Object") (3 : Int32) [.null, .null, .null] .null := (Arv.new A2 (by decide)).pad (pad_rep [] .null 3)
  refine go_of (B := (T2.setTop (mkF m 10 #[.val (.ref d), .val (.int (3 : Int32)), .val (.ref mr), .unset] [(.ref b2)]))) (st2) ?_
  refine go_of (B := (T2.setTop (mkF m 29 #[.val (.ref d), .val (.int (3 : Int32)), .val (.ref mr), .val (.ref b2)] [(.int (0 : Int32)), (.ref b2), (.int (0 : Int32)), (.ref d)]))) (fun _ kk => XS.goto X2.here hx rfl (pc0 := 10) (pc' := 24) rfl (hb hby d23_10) (by decide) (by decide) (XS.astoreN X2.here hx rfl (hb hby d23_24) rfl rfl rfl (XS.aloadN X2.here hx rfl (hb hby d23_25) rfl rfl (XS.iconst X2.here hx rfl (hb hby d23_26) (XS.aloadN X2.here hx rfl (hb hby d23_27) rfl rfl (XS.iconst X2.here hx rfl (hb hby d23_28) kk)))))) ?_
  refine go_of (B := (T2.setTop (mkF m 30 #[.val (.ref d), .val (.int (3 : Int32)), .val (.ref mr), .val (.ref b2)] [(.ref d), (.int (0 : Int32)), (.ref b2), (.int (0 : Int32)), (.ref d)]))) (fun _ kk => XS.aloadN X2.here hx rfl (hb hby d23_29) rfl rfl kk) ?_
  have cf_3 := (VD.ext E2)
  obtain ⟨cl4, Ar4, q4, Sz4, Nn4, Hh4, G4⟩ := id (cf_3)
  have ln4 := len_of Sz4 Nn4
  refine go_of (B := (T2.setTop (mkF m 31 #[.val (.ref d), .val (.int (3 : Int32)), .val (.ref mr), .val (.ref b2)] [(.int (10 : Int32)), (.int (0 : Int32)), (.ref b2), (.int (0 : Int32)), (.ref d)]))) (fun _ kk => X2.arraylength hx (by rw [e2]; exact Ar4.1) (State.isArrayOf_alike hZ.alike Ar4.2.1) (g := (mkF m 30 #[.val (.ref d), .val (.int (3 : Int32)), .val (.ref mr), .val (.ref b2)] [(.ref d), (.int (0 : Int32)), (.ref b2), (.int (0 : Int32)), (.ref d)])) rfl rfl (hb hby d23_30) _ (by rw [ln4]; exact kk)) ?_
  refine go_of (B := (T2.setTop (mkF m 32 #[.val (.ref d), .val (.int (3 : Int32)), .val (.ref mr), .val (.ref b2)] [(.int (3 : Int32)), (.int (10 : Int32)), (.int (0 : Int32)), (.ref b2), (.int (0 : Int32)), (.ref d)]))) (fun _ kk => XS.iloadN X2.here hx rfl (hb hby d23_31) rfl kk) ?_
  obtain ⟨_, _, ⟨T5, L5, k5, n5⟩, -, X5, ⟨Lc5, hQ5, l5, y5, z5⟩, st5⟩ := Jvm.LawKit.callS X2 hx (y := MN7) hown (mvT hZ (wd 189 rfl)) (mvT hZ (wd 190 rfl)) (mvT hZ (wd 142 rfl)) (mvT hZ (wd 191 rfl)) (by decide) (backOf (W := 4) (mmin l Z a0 hw [] (10 : Int32) (3 : Int32) (3 : Int32) h2 n0 (by omega) (by decide)) hZ (wd 191 rfl) (wd 142 rfl) (by decide) (by decide)) (g := (mkF m 32 #[.val (.ref d), .val (.int (3 : Int32)), .val (.ref mr), .val (.ref b2)] [(.int (3 : Int32)), (.int (10 : Int32)), (.int (0 : Int32)), (.ref b2), (.int (0 : Int32)), (.ref d)])) rfl (by rw [hml]; rfl) (argsL := [(.int (10 : Int32)), (.int (3 : Int32))]) (rest := [(.int (0 : Int32)), (.ref b2), (.int (0 : Int32)), (.ref d)]) (lenOf pd__II_I rfl) rfl (Nat.le_of_eq rfl) (hb hby d23_32) (fun _ _ => ⟨rfl, e2, (by decide : 1 + 0 ≤ _), (by decide : 3 + 0 ≤ _)⟩)
  dsimp only [Pt.U, Pt.locs, Pt.cells, Pt.slots] at X5 l5 y5 z5 st5 hQ5
  subst l5 y5 z5
  obtain ⟨rfl, N5q, e5⟩ := hQ5
  have N5 := Fr.app N0 N5q
  refine go_of (B := (T5.setTop (mkF m 35 #[.val (.ref d), .val (.int (3 : Int32)), .val (.ref mr), .val (.ref b2)] [(.int (3 : Int32)), (.int (0 : Int32)), (.ref b2), (.int (0 : Int32)), (.ref d)]))) (st5) ?_
  obtain ⟨cl6, Ar6, q6, Sz6, Nn6, Hh6, G6⟩ := id (V2)
  have cf_7 := (Ix2.ext E2)
  have cf_8 := (Ix1.ext E2)
  have cf_9 := (Ix0.ext E2)
  obtain ⟨T10, h10, L10, X10, e10, N10, K10, Vq10, st10⟩ := cpA X5 hx hZ hown (wd 192 rfl) (wd 195 rfl) (wd 193 rfl) (wd 194 rfl) e5 cf_3 V2 (us := [(.ref x0), (.ref x1), (.ref x2)]) (Or.inr ⟨rfl, rfl, ⟨Sto.ofV Ar6 q6 O2 cf_9, ⟨Sto.ofV Ar6 q6 O2 cf_8, ⟨Sto.ofV Ar6 q6 O2 cf_7, trivial⟩⟩⟩⟩) (by decide) (by decide) (by decide) (by decide) (by decide) rfl (Nat.le_of_ble_eq_true rfl) N5 ((by first | omega | exact own_ne (by omega) | exact own_le (by omega)) : n0 ≤ b2) (g := (mkF m 35 #[.val (.ref d), .val (.int (3 : Int32)), .val (.ref mr), .val (.ref b2)] [(.int (3 : Int32)), (.int (0 : Int32)), (.ref b2), (.int (0 : Int32)), (.ref d)])) rfl (by rw [hml]; rfl) rfl (hb hby d23_35) (by decide) (W := 0) (Nat.le_of_eq rfl) (by decide)
  have V10 : Arv Z h10 b2 k2 (.object "java/lang/Object") (3 : Int32) [(.ref x0), (.ref x1), (.ref x2)] .null := Vq10
  have sz10 := K10.1
  refine go_of (B := (T10.setTop (mkF m 38 #[.val (.ref d), .val (.int (3 : Int32)), .val (.ref mr), .val (.ref b2)] []))) (st10) ?_
  refine go_of (B := (T10.setTop (mkF m 39 #[.val (.ref d), .val (.int (3 : Int32)), .val (.ref mr), .val (.ref b2)] [(.ref b2)]))) (fun _ kk => XS.aloadN X10.here hx rfl (hb hby d23_38) rfl rfl kk) ?_
  refine go_end X10 (v := some (.ref b2)) (fun h => by rw [Bd.returns] at h; cases h) Bd.notSynchronized (by decide) (by decide) (Q := (Q_cp3_3 Z d mr kD x0 x1 x2 h0 n0)) ?_ (fun fs hr => own_retA X10 hx Bd.returns rfl rfl (hb hby d23_39) hr)
  unfold Q_cp3_3
  try rw [e10]
  exact ⟨b2, k2, rfl, N10, by omega, (((Keep.refl h0 []).ext E2).trans K10 (allS (Or.inr (by first | omega | exact own_ne (by omega) | exact own_le (by omega))) all0)), V10⟩
def Q_cp2_3 (Z : State) (d : Addr) (kD : ClassId) (x0 : Addr) (x1 : Addr) (x2 : Addr) (mr : Addr) (h0 : Heap) (n0 : Nat) (v : Option Value) (h : Heap) (L : List Loc) : Prop := ∃ (t : Addr) (k : ClassId), v = some (.ref t) ∧ Fr n0 L ∧ h0.size ≤ t ∧ Keep h0 h [] ∧ Arv Z h t k (.object "java/lang/Object") 3 [.ref x0, .ref x1, .ref x2] .null
theorem ef_cp2_3 (m : MethodId) (d : Addr)  : entryFrame m #[(.ref d), (.int (3 : Int32))] 2 = mkF m 0 #[.val (.ref d), .val (.int (3 : Int32))] [] := by first | (simp [entryFrame, mkF, argsToLocals, Value.category]; done) | rfl
theorem cp2_3 (l : Launch) (Z : State) (a0 : Array Value) (hw : TW a0 Z) (ws : List Cond) (d : Addr) (kD : ClassId) (x0 : Addr) (x1 : Addr) (x2 : Addr) (mr : Addr) (h0 : Heap) (n0 : Nat) (Z0 : n0 ≤ h0.size) (M : own_Mir Z "[Ljava/lang/Object;" mr) (VD : Arv Z h0 d kD (.object "java/lang/Object") 10 [.ref x0, .ref x1, .ref x2, .null, .null, .null, .null, .null, .null, .null] .null) (Ix0 : Ins Z h0 x0 "java/lang/Object" true) (Ix1 : Ins Z h0 x1 "java/lang/Object" true) (Ix2 : Ins Z h0 x2 "java/lang/Object" true) (ED : Exa Z h0 d "[Ljava/lang/Object;") :
    own_MF l Z MN15 jdk_65_method_119_code 2 (some (.array (.object "java/lang/Object"))) ws (own_R 2 1 3 33) #[(.ref d), (.int (3 : Int32))] h0 (Q_cp2_3 Z d kD x0 x1 x2 mr h0 n0) := by
  have wd := @own_wd _ _ hw
  refine MetFree.of_bodySF (plainFor_of_name pn_java_util_Arrays) hisR ?_
  intro p e s m args below meth c s₁ Bd hml0 hP hK
  obtain ⟨rfl, hZ, hh⟩ := hP
  have hx := Bd.exec
  have hby := Bd.bytes
  have hml : c.maxLocals = 2 := hml0
  have hown : s.vm.findClass "java/util/Arrays" = some m.cls := findClass_of_methodNamed Bd.named
  have hnm := (name_of_methodNamed Bd.named Bd.method).1
  have X0 : Stand p l e (own_R 2 1 3 33) s m #[(.ref d), (.int (3 : Int32))] below meth c s₁ [] 0 0 := Stand.of_body Bd
  have e0 : s₁.heap = h0 := by rw [← hh, Bd.state]; rfl
  have N0 := Fr.nil n0
  refine go_of (A := s₁.setTop (entryFrame m #[(.ref d), (.int (3 : Int32))] 2)) (B := s₁.setTop (mkF m 0 #[.val (.ref d), .val (.int (3 : Int32))] [])) (fun _ kk' => castTop (ef_cp2_3 m d) kk') ?_
  refine go_of (B := (s₁.setTop (mkF m 3 #[.val (.ref d), .val (.int (3 : Int32))] [(.ref d), (.int (3 : Int32)), (.ref d)]))) (fun _ kk => XS.aloadN X0.here hx rfl (hb hby d22_0) rfl rfl (XS.iloadN X0.here hx rfl (hb hby d22_1) rfl (XS.aloadN X0.here hx rfl (hb hby d22_2) rfl rfl kk))) ?_
  obtain ⟨vm1, X1, st1⟩ := own_gcls X0 hx hZ hown (wd 178 rfl) (wd 179 rfl) (wd 75 rfl) (wd 181 rfl) (wd 180 rfl) (wd 182 rfl) e0 ED M (g := (mkF m 3 #[.val (.ref d), .val (.int (3 : Int32))] [(.ref d), (.int (3 : Int32)), (.ref d)])) rfl (by rw [hml]; rfl) rfl (hb hby d22_3) (by decide) (W := 2) (Nat.le_of_eq rfl) (by decide)
  have e1 : (s₁.setVm vm1).heap = h0 := e0
  refine go_of (B := ((s₁.setVm vm1).setTop (mkF m 6 #[.val (.ref d), .val (.int (3 : Int32))] [(.ref mr), (.int (3 : Int32)), (.ref d)]))) (st1) ?_
  obtain ⟨_, _, ⟨T2, L2, k2, n2⟩, -, X2, ⟨Lc2, hQ2, l2, y2, z2⟩, st2⟩ := Jvm.LawKit.callS X1 hx (y := MN16) hown (mvT hZ (wd 184 rfl)) (mvT hZ (wd 185 rfl)) (mvT hZ (wd 176 rfl)) (mvT hZ (wd 186 rfl)) (by decide) (backOf (W := 0) (cp3_3 l Z a0 hw [] d mr kD x0 x1 x2 h0 n0 (by omega) M VD Ix0 Ix1 Ix2) hZ (wd 186 rfl) (wd 176 rfl) (by decide) (by decide)) (g := (mkF m 6 #[.val (.ref d), .val (.int (3 : Int32))] [(.ref mr), (.int (3 : Int32)), (.ref d)])) rfl (by rw [hml]; rfl) (argsL := [(.ref d), (.int (3 : Int32)), (.ref mr)]) (rest := []) (lenOf pd___Ljava_lang_Object_ILjava_lang_Class___Ljava_lang_Object_ rfl) rfl (Nat.le_of_eq rfl) (hb hby d22_6) (fun _ _ => ⟨rfl, e1, (by decide : 0 + 1 ≤ _), (by decide : 0 + 3 ≤ _)⟩)
  dsimp only [Pt.U, Pt.locs, Pt.cells, Pt.slots] at X2 l2 y2 z2 st2 hQ2
  subst l2 y2 z2
  obtain ⟨b2, k2, rfl, N2q, lo2, K2, V2⟩ := hQ2
  have lo2 := own_nle lo2
  have N2 := Fr.app N0 N2q
  have hi2 := own_nlt (V2.lt)
  have sz2 := K2.1
  refine go_of (B := (T2.setTop (mkF m 9 #[.val (.ref d), .val (.int (3 : Int32))] [(.ref b2)]))) (st2) ?_
  refine go_end X2 (v := some (.ref b2)) (fun h => by rw [Bd.returns] at h; cases h) Bd.notSynchronized (by decide) (by decide) (Q := (Q_cp2_3 Z d kD x0 x1 x2 mr h0 n0)) ?_ (fun fs hr => own_retA X2 hx Bd.returns rfl rfl (hb hby d22_9) hr)
  unfold Q_cp2_3
  exact ⟨b2, k2, rfl, N2, by omega, ((Keep.refl h0 []).trans K2 all0), V2⟩
def Q_toa_3 (Z : State) (a : Addr) (d : Addr) (mc : Int32) (kD : ClassId) (x0 : Addr) (x1 : Addr) (x2 : Addr) (mr : Addr) (h0 : Heap) (n0 : Nat) (v : Option Value) (h : Heap) (L : List Loc) : Prop := ∃ (t : Addr) (k : ClassId), v = some (.ref t) ∧ Fr n0 L ∧ h0.size ≤ t ∧ Keep h0 h [] ∧ Arv Z h t k (.object "java/lang/Object") 3 [.ref x0, .ref x1, .ref x2] .null
theorem ef_toa_3 (m : MethodId) (a : Addr)  : entryFrame m #[(.ref a)] 1 = mkF m 0 #[.val (.ref a)] [] := by first | (simp [entryFrame, mkF, argsToLocals, Value.category]; done) | rfl
theorem toa_3 (l : Launch) (Z : State) (a0 : Array Value) (hw : TW a0 Z) (ws : List Cond) (a : Addr) (d : Addr) (mc : Int32) (kD : ClassId) (x0 : Addr) (x1 : Addr) (x2 : Addr) (mr : Addr) (h0 : Heap) (n0 : Nat) (Z0 : n0 ≤ h0.size) (A : AL Z h0 a mc d 3) (M : own_Mir Z "[Ljava/lang/Object;" mr) (VD : Arv Z h0 d kD (.object "java/lang/Object") 10 [.ref x0, .ref x1, .ref x2, .null, .null, .null, .null, .null, .null, .null] .null) (Ix0 : Ins Z h0 x0 "java/lang/Object" true) (Ix1 : Ins Z h0 x1 "java/lang/Object" true) (Ix2 : Ins Z h0 x2 "java/lang/Object" true) (ED : Exa Z h0 d "[Ljava/lang/Object;") :
    own_MF l Z MN14 jdk_38_method_16_code 1 (some (.array (.object "java/lang/Object"))) ws (own_R 3 1 3 46) #[(.ref a)] h0 (Q_toa_3 Z a d mc kD x0 x1 x2 mr h0 n0) := by
  have wd := @own_wd _ _ hw
  refine MetFree.of_bodySF (plainFor_of_name pn_java_util_ArrayList) hisR ?_
  intro p e s m args below meth c s₁ Bd hml0 hP hK
  obtain ⟨rfl, hZ, hh⟩ := hP
  have hx := Bd.exec
  have hby := Bd.bytes
  have hml : c.maxLocals = 1 := hml0
  have hown : s.vm.findClass "java/util/ArrayList" = some m.cls := findClass_of_methodNamed Bd.named
  have hnm := (name_of_methodNamed Bd.named Bd.method).1
  have X0 : Stand p l e (own_R 3 1 3 46) s m #[(.ref a)] below meth c s₁ [] 0 0 := Stand.of_body Bd
  have e0 : s₁.heap = h0 := by rw [← hh, Bd.state]; rfl
  have N0 := Fr.nil n0
  refine go_of (A := s₁.setTop (entryFrame m #[(.ref a)] 1)) (B := s₁.setTop (mkF m 0 #[.val (.ref a)] [])) (fun _ kk' => castTop (ef_toa_3 m a) kk') ?_
  refine go_of (B := (s₁.setTop (mkF m 1 #[.val (.ref a)] [(.ref a)]))) (fun _ kk => XS.aloadN X0.here hx rfl (hb hby d21_0) rfl rfl kk) ?_
  obtain ⟨T1, X1, e1, st1⟩ := getF X0 hx hZ hown (host := "") (Or.inl (wd 114 rfl)) Via.refl e0 A.2.2.1 (g := (mkF m 1 #[.val (.ref a)] [(.ref a)])) rfl rfl (hb hby d21_1)
  refine go_of (B := (T1.setTop (mkF m 4 #[.val (.ref a)] [(.ref d)]))) (st1) ?_
  refine go_of (B := (T1.setTop (mkF m 5 #[.val (.ref a)] [(.ref a), (.ref d)]))) (fun _ kk => XS.aloadN X1.here hx rfl (hb hby d21_4) rfl rfl kk) ?_
  obtain ⟨T2, X2, e2, st2⟩ := getF X1 hx hZ hown (host := "") (Or.inl (wd 123 rfl)) Via.refl e1 A.2.2.2 (g := (mkF m 5 #[.val (.ref a)] [(.ref a), (.ref d)])) rfl rfl (hb hby d21_5)
  refine go_of (B := (T2.setTop (mkF m 8 #[.val (.ref a)] [(.int (3 : Int32)), (.ref d)]))) (st2) ?_
  obtain ⟨_, _, ⟨T3, L3, k3, n3⟩, -, X3, ⟨Lc3, hQ3, l3, y3, z3⟩, st3⟩ := Jvm.LawKit.callS X2 hx (y := MN15) hown (mvT hZ (wd 174 rfl)) (mvT hZ (wd 175 rfl)) (mvT hZ (wd 176 rfl)) (mvT hZ (wd 177 rfl)) (by decide) (backOf (W := 0) (cp2_3 l Z a0 hw [] d kD x0 x1 x2 mr h0 n0 (by omega) M VD Ix0 Ix1 Ix2 ED) hZ (wd 177 rfl) (wd 176 rfl) (by decide) (by decide)) (g := (mkF m 8 #[.val (.ref a)] [(.int (3 : Int32)), (.ref d)])) rfl (by rw [hml]; rfl) (argsL := [(.ref d), (.int (3 : Int32))]) (rest := []) (lenOf pd___Ljava_lang_Object_I__Ljava_lang_Object_ rfl) rfl (Nat.le_of_eq rfl) (hb hby d21_8) (fun _ _ => ⟨rfl, e2, (by decide : 0 + 1 ≤ _), (by decide : 0 + 3 ≤ _)⟩)
  dsimp only [Pt.U, Pt.locs, Pt.cells, Pt.slots] at X3 l3 y3 z3 st3 hQ3
  subst l3 y3 z3
  obtain ⟨b3, k3, rfl, N3q, lo3, K3, V3⟩ := hQ3
  have lo3 := own_nle lo3
  have N3 := Fr.app N0 N3q
  have hi3 := own_nlt (V3.lt)
  have sz3 := K3.1
  refine go_of (B := (T3.setTop (mkF m 11 #[.val (.ref a)] [(.ref b3)]))) (st3) ?_
  refine go_end X3 (v := some (.ref b3)) (fun h => by rw [Bd.returns] at h; cases h) Bd.notSynchronized (by decide) (by decide) (Q := (Q_toa_3 Z a d mc kD x0 x1 x2 mr h0 n0)) ?_ (fun fs hr => own_retA X3 hx Bd.returns rfl rfl (hb hby d21_11) hr)
  unfold Q_toa_3
  exact ⟨b3, k3, rfl, N3, by omega, ((Keep.refl h0 []).trans K3 all0), V3⟩
def Q_ie_3 (Z : State) (a : Addr) (d : Addr) (mc : Int32) (h0 : Heap) (n0 : Nat) (v : Option Value) (h : Heap) (L : List Loc) : Prop := v = some (.int 0) ∧ Fr n0 L ∧ h = h0
theorem ef_ie_3 (m : MethodId) (a : Addr)  : entryFrame m #[(.ref a)] 1 = mkF m 0 #[.val (.ref a)] [] := by first | (simp [entryFrame, mkF, argsToLocals, Value.category]; done) | rfl
theorem ie_3 (l : Launch) (Z : State) (a0 : Array Value) (hw : TW a0 Z) (ws : List Cond) (a : Addr) (d : Addr) (mc : Int32) (h0 : Heap) (n0 : Nat) (Z0 : n0 ≤ h0.size) (A : AL Z h0 a mc d 3) :
    own_MF l Z MN13 jdk_38_method_9_code 1 (some .boolean) ws (own_R 0 0 0 0) #[(.ref a)] h0 (Q_ie_3 Z a d mc h0 n0) := by
  have wd := @own_wd _ _ hw
  refine MetFree.of_bodySF (plainFor_of_name pn_java_util_ArrayList) hisR ?_
  intro p e s m args below meth c s₁ Bd hml0 hP hK
  obtain ⟨rfl, hZ, hh⟩ := hP
  have hx := Bd.exec
  have hby := Bd.bytes
  have hml : c.maxLocals = 1 := hml0
  have hown : s.vm.findClass "java/util/ArrayList" = some m.cls := findClass_of_methodNamed Bd.named
  have hnm := (name_of_methodNamed Bd.named Bd.method).1
  have X0 : Stand p l e (own_R 0 0 0 0) s m #[(.ref a)] below meth c s₁ [] 0 0 := Stand.of_body Bd
  have e0 : s₁.heap = h0 := by rw [← hh, Bd.state]; rfl
  have N0 := Fr.nil n0
  refine go_of (A := s₁.setTop (entryFrame m #[(.ref a)] 1)) (B := s₁.setTop (mkF m 0 #[.val (.ref a)] [])) (fun _ kk' => castTop (ef_ie_3 m a) kk') ?_
  refine go_of (B := (s₁.setTop (mkF m 1 #[.val (.ref a)] [(.ref a)]))) (fun _ kk => XS.aloadN X0.here hx rfl (hb hby d20_0) rfl rfl kk) ?_
  obtain ⟨T1, X1, e1, st1⟩ := getF X0 hx hZ hown (host := "") (Or.inl (wd 123 rfl)) Via.refl e0 A.2.2.2 (g := (mkF m 1 #[.val (.ref a)] [(.ref a)])) rfl rfl (hb hby d20_1)
  refine go_of (B := (T1.setTop (mkF m 4 #[.val (.ref a)] [(.int (3 : Int32))]))) (st1) ?_
  refine go_of (B := (T1.setTop (mkF m 12 #[.val (.ref a)] [(.int (0 : Int32))]))) (fun _ kk => XS.ifYes X1.here hx rfl (pc0 := 4) (pc' := 11) rfl (hb hby d20_4) rfl ((if0 _ _).trans (feq (by decide : ¬ ((3 : Int32) = (0 : Int32)))).2) (by decide) (by decide) (XS.iconst X1.here hx rfl (hb hby d20_11) kk)) ?_
  refine go_end X1 (v := some (.int (nar .boolean (0 : Int32)))) (fun h => by rw [Bd.returns] at h; cases h) Bd.notSynchronized (by decide) (by decide) (Q := (Q_ie_3 Z a d mc h0 n0)) ?_ (fun fs hr => retN X1 hx (t := .boolean) Bd.returns (by simp) (hb hby d20_12) hr)
  unfold Q_ie_3
  try rw [e1]
  exact ⟨rfl, N0, rfl⟩
theorem d25_59 : decode jdk_40_method_47_code 59 = .ok (.aload_n 0, 1) := by decide +kernel
theorem d25_60 : decode jdk_40_method_47_code 60 = .ok (.invokestatic 109, 3) := by decide +kernel
theorem d25_63 : decode jdk_40_method_47_code 63 = .ok (.areturn, 1) := by decide +kernel
def Q_loa_3 (Z : State) (d : Addr) (kD : ClassId) (x0 : Addr) (x1 : Addr) (x2 : Addr) (h0 : Heap) (n0 : Nat) (v : Option Value) (h : Heap) (L : List Loc) : Prop := ∃ (t : Addr) (dd : Addr) (kk : ClassId), v = some (.ref t) ∧ Fr n0 L ∧ h0.size ≤ t ∧ Keep h0 h [] ∧ L3 Z h t dd kk x0 x1 x2 ∧ h0.size ≤ dd
theorem ef_loa_3 (m : MethodId) (d : Addr)  : entryFrame m #[(.ref d)] 2 = mkF m 0 #[.val (.ref d), .unset] [] := by first | (simp [entryFrame, mkF, argsToLocals, Value.category]; done) | rfl
theorem loa_3 (l : Launch) (Z : State) (a0 : Array Value) (hw : TW a0 Z) (ws : List Cond) (d : Addr) (kD : ClassId) (x0 : Addr) (x1 : Addr) (x2 : Addr) (h0 : Heap) (n0 : Nat) (Z0 : n0 ≤ h0.size) (VD : Arv Z h0 d kD (.object "java/lang/Object") 3 [.ref x0, .ref x1, .ref x2] .null) (Ix0 : Ins Z h0 x0 "java/lang/Object" true) (Ix1 : Ins Z h0 x1 "java/lang/Object" true) (Ix2 : Ins Z h0 x2 "java/lang/Object" true) :
    own_MF l Z MN30 jdk_40_method_47_code 2 (some (.object "java/util/List")) ws (own_R 6 2 5 77) #[(.ref d)] h0 (Q_loa_3 Z d kD x0 x1 x2 h0 n0) := by
  have wd := @own_wd _ _ hw
  refine MetFree.of_bodySF (plainFor_of_name pn_java_util_List) hisR ?_
  intro p e s m args below meth c s₁ Bd hml0 hP hK
  obtain ⟨rfl, hZ, hh⟩ := hP
  have hx := Bd.exec
  have hby := Bd.bytes
  have hml : c.maxLocals = 2 := hml0
  have hown : s.vm.findClass "java/util/List" = some m.cls := findClass_of_methodNamed Bd.named
  have hnm := (name_of_methodNamed Bd.named Bd.method).1
  have X0 : Stand p l e (own_R 6 2 5 77) s m #[(.ref d)] below meth c s₁ [] 0 0 := Stand.of_body Bd
  have e0 : s₁.heap = h0 := by rw [← hh, Bd.state]; rfl
  have N0 := Fr.nil n0
  have ltd := own_nlt (VD.lt)
  refine go_of (A := s₁.setTop (entryFrame m #[(.ref d)] 2)) (B := s₁.setTop (mkF m 0 #[.val (.ref d), .unset] [])) (fun _ kk' => castTop (ef_loa_3 m d) kk') ?_
  refine go_of (B := (s₁.setTop (mkF m 1 #[.val (.ref d), .unset] [(.ref d)]))) (fun _ kk => XS.aloadN X0.here hx rfl (hb hby d25_0) rfl rfl kk) ?_
  obtain ⟨cl1, Ar1, q1, Sz1, Nn1, Hh1, G1⟩ := id (VD)
  have ln1 := len_of Sz1 Nn1
  refine go_of (B := (s₁.setTop (mkF m 2 #[.val (.ref d), .unset] [(.int (3 : Int32))]))) (fun _ kk => X0.arraylength hx (by rw [e0]; exact Ar1.1) (State.isArrayOf_alike hZ.alike Ar1.2.1) (g := (mkF m 1 #[.val (.ref d), .unset] [(.ref d)])) rfl rfl (hb hby d25_1) _ (by rw [ln1]; exact kk)) ?_
  refine go_of (B := (s₁.setTop (mkF m 59 #[.val (.ref d), .unset] []))) (fun _ kk => own_tswo (g := (mkF m 2 #[.val (.ref d), .unset] [(.int (3 : Int32))])) X0 hx rfl rfl (pc0 := 2) (pc' := 59) rfl (hb hby d25_2) (by decide) (by decide) (by decide) kk) ?_
  refine go_of (B := (s₁.setTop (mkF m 60 #[.val (.ref d), .unset] [(.ref d)]))) (fun _ kk => XS.aloadN X0.here hx rfl (hb hby d25_59) rfl rfl kk) ?_
  obtain ⟨_, _, ⟨T2, L2, k2, n2⟩, -, X2, ⟨Lc2, hQ2, l2, y2, z2⟩, st2⟩ := Jvm.LawKit.callS X0 hx (y := (⟨"java/util/ImmutableCollections", "listFromArray", "([Ljava/lang/Object;)Ljava/util/List;"⟩ : MethodName)) hown (mvT hZ (wd 275 rfl)) (mvT hZ (wd 276 rfl)) (mvT hZ (wd 54 rfl)) (mvT hZ (wd 277 rfl)) (by decide) (backOf (W := 0) (lfa l Z a0 hw [] d kD x0 x1 x2 h0 n0 (by omega) VD Ix0 Ix1 Ix2) hZ (wd 277 rfl) (wd 54 rfl) (by decide) (by decide)) (g := (mkF m 60 #[.val (.ref d), .unset] [(.ref d)])) rfl (by rw [hml]; rfl) (argsL := [(.ref d)]) (rest := []) (lenOf pd___Ljava_lang_Object__Ljava_util_List_ rfl) rfl (Nat.le_of_eq rfl) (hb hby d25_60) (fun _ _ => ⟨rfl, e0, (by decide : 0 + 2 ≤ _), (by decide : 0 + 5 ≤ _)⟩)
  dsimp only [Pt.U, Pt.locs, Pt.cells, Pt.slots] at X2 l2 y2 z2 st2 hQ2
  subst l2 y2 z2
  obtain ⟨b2, d2, k2, rfl, N2q, lo2, K2, A2, lod2⟩ := hQ2
  have lo2 := own_nle lo2
  have N2 := Fr.app N0 N2q
  have hi2 := own_nlt (A2.1.lt)
  have lod2 := own_nle lod2
  have sz2 := K2.1
  refine go_of (B := (T2.setTop (mkF m 63 #[.val (.ref d), .unset] [(.ref b2)]))) (st2) ?_
  refine go_end X2 (v := some (.ref b2)) (fun h => by rw [Bd.returns] at h; cases h) Bd.notSynchronized (by decide) (by decide) (Q := (Q_loa_3 Z d kD x0 x1 x2 h0 n0)) ?_ (fun fs hr => own_retA X2 hx Bd.returns rfl rfl (hb hby d25_63) hr)
  unfold Q_loa_3
  exact ⟨b2, d2, k2, rfl, N2, by omega, ((Keep.refl h0 []).trans K2 all0), ⟨A2.1, A2.2.1, A2.2.2⟩, by omega⟩
def Q_lc_3 (Z : State) (a : Addr) (d : Addr) (mc : Int32) (kD : ClassId) (x0 : Addr) (x1 : Addr) (x2 : Addr) (mr : Addr) (h0 : Heap) (n0 : Nat) (v : Option Value) (h : Heap) (L : List Loc) : Prop := ∃ (t : Addr) (dd : Addr) (kk : ClassId), v = some (.ref t) ∧ Fr n0 L ∧ h0.size ≤ t ∧ Keep h0 h [] ∧ L3 Z h t dd kk x0 x1 x2 ∧ h0.size ≤ dd
theorem ef_lc_3 (m : MethodId) (a : Addr)  : entryFrame m #[(.ref a)] 2 = mkF m 0 #[.val (.ref a), .unset] [] := by first | (simp [entryFrame, mkF, argsToLocals, Value.category]; done) | rfl
theorem lc_3 (l : Launch) (Z : State) (a0 : Array Value) (hw : TW a0 Z) (ws : List Cond) (a : Addr) (d : Addr) (mc : Int32) (kD : ClassId) (x0 : Addr) (x1 : Addr) (x2 : Addr) (mr : Addr) (h0 : Heap) (n0 : Nat) (Z0 : n0 ≤ h0.size) (A : AL Z h0 a mc d 3) (M : own_Mir Z "[Ljava/lang/Object;" mr) (VD : Arv Z h0 d kD (.object "java/lang/Object") 10 [.ref x0, .ref x1, .ref x2, .null, .null, .null, .null, .null, .null, .null] .null) (Ix0 : Ins Z h0 x0 "java/lang/Object" true) (Ix1 : Ins Z h0 x1 "java/lang/Object" true) (Ix2 : Ins Z h0 x2 "java/lang/Object" true) (ED : Exa Z h0 d "[Ljava/lang/Object;") :
    own_MF l Z MN19 jdk_56_method_3_code 2 (some (.object "java/util/List")) ws (own_R 7 3 8 90) #[(.ref a)] h0 (Q_lc_3 Z a d mc kD x0 x1 x2 mr h0 n0) := by
  have wd := @own_wd _ _ hw
  refine MetFree.of_bodySF (plainFor_of_name pn_java_util_ImmutableCollections) hisR ?_
  intro p e s m args below meth c s₁ Bd hml0 hP hK
  obtain ⟨rfl, hZ, hh⟩ := hP
  have hx := Bd.exec
  have hby := Bd.bytes
  have hml : c.maxLocals = 2 := hml0
  have hown : s.vm.findClass "java/util/ImmutableCollections" = some m.cls := findClass_of_methodNamed Bd.named
  have hnm := (name_of_methodNamed Bd.named Bd.method).1
  have X0 : Stand p l e (own_R 7 3 8 90) s m #[(.ref a)] below meth c s₁ [] 0 0 := Stand.of_body Bd
  have e0 : s₁.heap = h0 := by rw [← hh, Bd.state]; rfl
  have N0 := Fr.nil n0
  refine go_of (A := s₁.setTop (entryFrame m #[(.ref a)] 2)) (B := s₁.setTop (mkF m 0 #[.val (.ref a), .unset] [])) (fun _ kk' => castTop (ef_lc_3 m a) kk') ?_
  refine go_of (B := (s₁.setTop (mkF m 1 #[.val (.ref a), .unset] [(.ref a)]))) (fun _ kk => XS.aloadN X0.here hx rfl (hb hby d10_0) rfl rfl kk) ?_
  obtain ⟨T1, X1, e1, st1⟩ := instNo X0 hx hZ hown (wd 70 rfl) e0 A.1 (own_nsno (wd 155 rfl) (wd 200 rfl) (NS.step (wd 155 rfl) (NS.step (wd 156 rfl) (NS.step (wd 74 rfl) (own_nsroot (wd 75 rfl) (wd 200 rfl) (by decide)) (by decide)) (by decide)) (by decide)) (by decide)) (g := (mkF m 1 #[.val (.ref a), .unset] [(.ref a)])) rfl rfl (hb hby d10_1)
  refine go_of (B := (T1.setTop (mkF m 4 #[.val (.ref a), .unset] [(.int (0 : Int32))]))) (st1) ?_
  refine go_of (B := (T1.setTop (mkF m 8 #[.val (.ref a), .unset] [(.ref a)]))) (fun _ kk => XS.ifNo X1.here hx rfl (hb hby d10_4) rfl ((if0 _ _).trans (teq (by decide : (0 : Int32) = (0 : Int32))).2) (XS.aloadN X1.here hx rfl (hb hby d10_7) rfl rfl kk)) ?_
  obtain ⟨T2, X2, e2, st2⟩ := instNo X1 hx hZ hown (wd 76 rfl) e1 A.1 (own_nsno (wd 155 rfl) (wd 280 rfl) (NS.step (wd 155 rfl) (NS.step (wd 156 rfl) (NS.step (wd 74 rfl) (own_nsroot (wd 75 rfl) (wd 280 rfl) (by decide)) (by decide)) (by decide)) (by decide)) (by decide)) (g := (mkF m 8 #[.val (.ref a), .unset] [(.ref a)])) rfl rfl (hb hby d10_8)
  refine go_of (B := (T2.setTop (mkF m 11 #[.val (.ref a), .unset] [(.int (0 : Int32))]))) (st2) ?_
  refine go_of (B := (T2.setTop (mkF m 32 #[.val (.ref a), .unset] [(.ref a)]))) (fun _ kk => XS.ifYes X2.here hx rfl (pc0 := 11) (pc' := 31) rfl (hb hby d10_11) rfl ((if0 _ _).trans (teq (by decide : (0 : Int32) = (0 : Int32))).1) (by decide) (by decide) (XS.aloadN X2.here hx rfl (hb hby d10_31) rfl rfl kk)) ?_
  obtain ⟨cq3, kq3, q3a, q3b, q3c⟩ := isOf hZ e2 A.1
  obtain ⟨_, _, ⟨T3, L3, k3, n3⟩, -, X3, ⟨Lc3, hQ3, l3, y3, z3⟩, st3⟩ := X2.interfaceBack hx (xi := MN17) (y := MN13) hown (mvT hZ (wd 157 rfl)) (mvT hZ (wd 158 rfl)) (mvT hZ (wd 159 rfl)) (mvT hZ (wd 160 rfl)) (mvT hZ (wd 161 rfl)) (mvT hZ (wd 162 rfl)) (mvT hZ (wd 163 rfl)) (mvT hZ (wd 164 rfl)) (by decide) (backOf (W := 0) (ie_3 l Z a0 hw [] a d mc h0 n0 (by omega) A) hZ (wd 165 rfl) (wd 94 rfl) (by decide) (by decide)) q3a q3b q3c (g := (mkF m 32 #[.val (.ref a), .unset] [(.ref a)])) rfl (by rw [hml]; rfl) (Steps.refl _) (argsL := []) (rest := []) (lenOf pd___Z rfl) rfl (Nat.le_of_eq rfl) (hb hby d10_32) (fun _ _ => ⟨rfl, e2, (by decide : 0 + 0 ≤ _), (by decide : 0 + 0 ≤ _)⟩)
  dsimp only [Pt.U, Pt.locs, Pt.cells, Pt.slots] at X3 l3 y3 z3 st3 hQ3
  subst l3 y3 z3
  obtain ⟨rfl, N3q, e3⟩ := hQ3
  have N3 := Fr.app N0 N3q
  refine go_tr (B := (T3.setTop (mkF m 37 #[.val (.ref a), .unset] [(.int (0 : Int32))]))) (st3) ?_
  refine go_of (B := (T3.setTop (mkF m 45 #[.val (.ref a), .unset] [(.ref a)]))) (fun _ kk => XS.ifYes X3.here hx rfl (pc0 := 37) (pc' := 44) rfl (hb hby d10_37) rfl ((if0 _ _).trans (teq (by decide : (0 : Int32) = (0 : Int32))).1) (by decide) (by decide) (XS.aloadN X3.here hx rfl (hb hby d10_44) rfl rfl kk)) ?_
  obtain ⟨cq4, kq4, q4a, q4b, q4c⟩ := isOf hZ e3 A.1
  obtain ⟨_, _, ⟨T4, L4, k4, n4⟩, -, X4, ⟨Lc4, hQ4, l4, y4, z4⟩, st4⟩ := X3.interfaceBack hx (xi := MN18) (y := MN14) hown (mvT hZ (wd 166 rfl)) (mvT hZ (wd 167 rfl)) (mvT hZ (wd 168 rfl)) (mvT hZ (wd 169 rfl)) (mvT hZ (wd 170 rfl)) (mvT hZ (wd 171 rfl)) (mvT hZ (wd 172 rfl)) (mvT hZ (wd 164 rfl)) (by decide) (backOf (W := 0) (toa_3 l Z a0 hw [] a d mc kD x0 x1 x2 mr h0 n0 (by omega) A M VD Ix0 Ix1 Ix2 ED) hZ (wd 173 rfl) (wd 94 rfl) (by decide) (by decide)) q4a q4b q4c (g := (mkF m 45 #[.val (.ref a), .unset] [(.ref a)])) rfl (by rw [hml]; rfl) (Steps.refl _) (argsL := []) (rest := []) (lenOf pd____Ljava_lang_Object_ rfl) rfl (Nat.le_of_eq rfl) (hb hby d10_45) (fun _ _ => ⟨rfl, e3, (by decide : 0 + 1 ≤ _), (by decide : 0 + 3 ≤ _)⟩)
  dsimp only [Pt.U, Pt.locs, Pt.cells, Pt.slots] at X4 l4 y4 z4 st4 hQ4
  subst l4 y4 z4
  obtain ⟨b4, k4, rfl, N4q, lo4, K4, V4⟩ := hQ4
  have lo4 := own_nle lo4
  have N4 := Fr.app N3 N4q
  have hi4 := own_nlt (V4.lt)
  have sz4 := K4.1
  refine go_tr (B := (T4.setTop (mkF m 50 #[.val (.ref a), .unset] [(.ref b4)]))) (st4) ?_
  have cf_5 := (own_inskeep Ix0 K4)
  have cf_6 := (own_inskeep Ix1 K4)
  have cf_7 := (own_inskeep Ix2 K4)
  obtain ⟨_, _, ⟨T8, L8, k8, n8⟩, -, X8, ⟨Lc8, hQ8, l8, y8, z8⟩, st8⟩ := Jvm.LawKit.callS X4 hx (y := MN30) hown (mvT hZ (wd 196 rfl)) (mvT hZ (wd 197 rfl)) (mvT hZ (wd 51 rfl)) (mvT hZ (wd 198 rfl)) (by decide) (backOf (W := 0) (loa_3 l Z a0 hw [] b4 k4 x0 x1 x2 T4.heap n0 (by omega) V4 cf_5 cf_6 cf_7) hZ (wd 198 rfl) (wd 51 rfl) (by decide) (by decide)) (g := (mkF m 50 #[.val (.ref a), .unset] [(.ref b4)])) rfl (by rw [hml]; rfl) (argsL := [(.ref b4)]) (rest := []) (lenOf pd___Ljava_lang_Object__Ljava_util_List_ rfl) rfl (Nat.le_of_eq rfl) (hb hby d10_50) (fun _ _ => ⟨rfl, rfl, (by decide : 1 + 2 ≤ _), (by decide : 3 + 5 ≤ _)⟩)
  dsimp only [Pt.U, Pt.locs, Pt.cells, Pt.slots] at X8 l8 y8 z8 st8 hQ8
  subst l8 y8 z8
  obtain ⟨b8, d8, k8, rfl, N8q, lo8, K8, A8, lod8⟩ := hQ8
  have lo8 := own_nle lo8
  have N8 := Fr.app N4 N8q
  have hi8 := own_nlt (A8.1.lt)
  have lod8 := own_nle lod8
  have sz8 := K8.1
  refine go_of (B := (T8.setTop (mkF m 53 #[.val (.ref a), .unset] [(.ref b8)]))) (st8) ?_
  refine go_end X8 (v := some (.ref b8)) (fun h => by rw [Bd.returns] at h; cases h) Bd.notSynchronized (by decide) (by decide) (Q := (Q_lc_3 Z a d mc kD x0 x1 x2 mr h0 n0)) ?_ (fun fs hr => own_retA X8 hx Bd.returns rfl rfl (hb hby d10_53) hr)
  unfold Q_lc_3
  exact ⟨b8, d8, k8, rfl, N8, by omega, (((Keep.refl h0 []).trans K4 all0).trans K8 all0), ⟨A8.1, A8.2.1, A8.2.2⟩, by omega⟩
def Q_co_3 (Z : State) (a : Addr) (d : Addr) (mc : Int32) (kD : ClassId) (x0 : Addr) (x1 : Addr) (x2 : Addr) (mr : Addr) (h0 : Heap) (n0 : Nat) (v : Option Value) (h : Heap) (L : List Loc) : Prop := ∃ (t : Addr) (dd : Addr) (kk : ClassId), v = some (.ref t) ∧ Fr n0 L ∧ h0.size ≤ t ∧ Keep h0 h [] ∧ L3 Z h t dd kk x0 x1 x2 ∧ h0.size ≤ dd
theorem ef_co_3 (m : MethodId) (a : Addr)  : entryFrame m #[(.ref a)] 1 = mkF m 0 #[.val (.ref a)] [] := by first | (simp [entryFrame, mkF, argsToLocals, Value.category]; done) | rfl
theorem co_3 (l : Launch) (Z : State) (a0 : Array Value) (hw : TW a0 Z) (ws : List Cond) (a : Addr) (d : Addr) (mc : Int32) (kD : ClassId) (x0 : Addr) (x1 : Addr) (x2 : Addr) (mr : Addr) (h0 : Heap) (n0 : Nat) (Z0 : n0 ≤ h0.size) (A : AL Z h0 a mc d 3) (M : own_Mir Z "[Ljava/lang/Object;" mr) (VD : Arv Z h0 d kD (.object "java/lang/Object") 10 [.ref x0, .ref x1, .ref x2, .null, .null, .null, .null, .null, .null, .null] .null) (Ix0 : Ins Z h0 x0 "java/lang/Object" true) (Ix1 : Ins Z h0 x1 "java/lang/Object" true) (Ix2 : Ins Z h0 x2 "java/lang/Object" true) (ED : Exa Z h0 d "[Ljava/lang/Object;") :
    own_MF l Z MN26 jdk_40_method_48_code 1 (some (.object "java/util/List")) ws (own_R 8 3 8 103) #[(.ref a)] h0 (Q_co_3 Z a d mc kD x0 x1 x2 mr h0 n0) := by
  have wd := @own_wd _ _ hw
  refine MetFree.of_bodySF (plainFor_of_name pn_java_util_List) hisR ?_
  intro p e s m args below meth c s₁ Bd hml0 hP hK
  obtain ⟨rfl, hZ, hh⟩ := hP
  have hx := Bd.exec
  have hby := Bd.bytes
  have hml : c.maxLocals = 1 := hml0
  have hown : s.vm.findClass "java/util/List" = some m.cls := findClass_of_methodNamed Bd.named
  have hnm := (name_of_methodNamed Bd.named Bd.method).1
  have X0 : Stand p l e (own_R 8 3 8 103) s m #[(.ref a)] below meth c s₁ [] 0 0 := Stand.of_body Bd
  have e0 : s₁.heap = h0 := by rw [← hh, Bd.state]; rfl
  have N0 := Fr.nil n0
  refine go_of (A := s₁.setTop (entryFrame m #[(.ref a)] 1)) (B := s₁.setTop (mkF m 0 #[.val (.ref a)] [])) (fun _ kk' => castTop (ef_co_3 m a) kk') ?_
  refine go_of (B := (s₁.setTop (mkF m 1 #[.val (.ref a)] [(.ref a)]))) (fun _ kk => XS.aloadN X0.here hx rfl (hb hby d9_0) rfl rfl kk) ?_
  obtain ⟨_, _, ⟨T1, L1, k1, n1⟩, -, X1, ⟨Lc1, hQ1, l1, y1, z1⟩, st1⟩ := Jvm.LawKit.callS X0 hx (y := MN19) hown (mvT hZ (wd 67 rfl)) (mvT hZ (wd 68 rfl)) (mvT hZ (wd 54 rfl)) (mvT hZ (wd 69 rfl)) (by decide) (backOf (W := 0) (lc_3 l Z a0 hw [] a d mc kD x0 x1 x2 mr h0 n0 (by omega) A M VD Ix0 Ix1 Ix2 ED) hZ (wd 69 rfl) (wd 54 rfl) (by decide) (by decide)) (g := (mkF m 1 #[.val (.ref a)] [(.ref a)])) rfl (by rw [hml]; rfl) (argsL := [(.ref a)]) (rest := []) (lenOf pd__Ljava_util_Collection__Ljava_util_List_ rfl) rfl (Nat.le_of_eq rfl) (hb hby d9_1) (fun _ _ => ⟨rfl, e0, (by decide : 0 + 3 ≤ _), (by decide : 0 + 8 ≤ _)⟩)
  dsimp only [Pt.U, Pt.locs, Pt.cells, Pt.slots] at X1 l1 y1 z1 st1 hQ1
  subst l1 y1 z1
  obtain ⟨b1, d1, k1, rfl, N1q, lo1, K1, A1, lod1⟩ := hQ1
  have lo1 := own_nle lo1
  have N1 := Fr.app N0 N1q
  have hi1 := own_nlt (A1.1.lt)
  have lod1 := own_nle lod1
  have sz1 := K1.1
  refine go_of (B := (T1.setTop (mkF m 4 #[.val (.ref a)] [(.ref b1)]))) (st1) ?_
  refine go_end X1 (v := some (.ref b1)) (fun h => by rw [Bd.returns] at h; cases h) Bd.notSynchronized (by decide) (by decide) (Q := (Q_co_3 Z a d mc kD x0 x1 x2 mr h0 n0)) ?_ (fun fs hr => own_retA X1 hx Bd.returns rfl rfl (hb hby d9_4) hr)
  unfold Q_co_3
  exact ⟨b1, d1, k1, rfl, N1, by omega, ((Keep.refl h0 []).trans K1 all0), ⟨A1.1, A1.2.1, A1.2.2⟩, by omega⟩
theorem d39_0 : decode jdk_45_method_2_code 0 = .ok (.aload_n 0, 1) := by decide +kernel
theorem d39_1 : decode jdk_45_method_2_code 1 = .ok (.getfield 7, 3) := by decide +kernel
theorem d39_4 : decode jdk_45_method_2_code 4 = .ok (.arraylength, 1) := by decide +kernel
theorem d39_5 : decode jdk_45_method_2_code 5 = .ok (.ifCond .ne 7, 3) := by decide +kernel
theorem d39_12 : decode jdk_45_method_2_code 12 = .ok (.iconst 0, 1) := by decide +kernel
theorem d39_13 : decode jdk_45_method_2_code 13 = .ok (.ireturn, 1) := by decide +kernel
def Q_li_3 (Z : State) (a : Addr) (x0 : Addr) (x1 : Addr) (x2 : Addr) (d : Addr) (kD : ClassId) (h0 : Heap) (n0 : Nat) (v : Option Value) (h : Heap) (L : List Loc) : Prop := v = some (.int 0) ∧ Fr n0 L ∧ h = h0
theorem ef_li_3 (m : MethodId) (a : Addr)  : entryFrame m #[(.ref a)] 1 = mkF m 0 #[.val (.ref a)] [] := by first | (simp [entryFrame, mkF, argsToLocals, Value.category]; done) | rfl
theorem li_3 (l : Launch) (Z : State) (a0 : Array Value) (hw : TW a0 Z) (ws : List Cond) (a : Addr) (x0 : Addr) (x1 : Addr) (x2 : Addr) (d : Addr) (kD : ClassId) (h0 : Heap) (n0 : Nat) (Z0 : n0 ≤ h0.size) (A : L3 Z h0 a d kD x0 x1 x2) :
    own_MF l Z (⟨"java/util/ImmutableCollections$ListN", "isEmpty", "()Z"⟩ : MethodName) jdk_45_method_2_code 1 (some .boolean) ws (own_R 0 0 0 0) #[(.ref a)] h0 (Q_li_3 Z a x0 x1 x2 d kD h0 n0) := by
  have wd := @own_wd _ _ hw
  refine MetFree.of_bodySF (plainFor_of_name pn_java_util_ImmutableCollections_ListN) hisR ?_
  intro p e s m args below meth c s₁ Bd hml0 hP hK
  obtain ⟨rfl, hZ, hh⟩ := hP
  have hx := Bd.exec
  have hby := Bd.bytes
  have hml : c.maxLocals = 1 := hml0
  have hown : s.vm.findClass "java/util/ImmutableCollections$ListN" = some m.cls := findClass_of_methodNamed Bd.named
  have hnm := (name_of_methodNamed Bd.named Bd.method).1
  have X0 : Stand p l e (own_R 0 0 0 0) s m #[(.ref a)] below meth c s₁ [] 0 0 := Stand.of_body Bd
  have e0 : s₁.heap = h0 := by rw [← hh, Bd.state]; rfl
  have N0 := Fr.nil n0
  refine go_of (A := s₁.setTop (entryFrame m #[(.ref a)] 1)) (B := s₁.setTop (mkF m 0 #[.val (.ref a)] [])) (fun _ kk' => castTop (ef_li_3 m a) kk') ?_
  refine go_of (B := (s₁.setTop (mkF m 1 #[.val (.ref a)] [(.ref a)]))) (fun _ kk => XS.aloadN X0.here hx rfl (hb hby d39_0) rfl rfl kk) ?_
  obtain ⟨T1, X1, e1, st1⟩ := getF X0 hx hZ hown (host := "") (Or.inl (wd 289 rfl)) Via.refl e0 A.2.1 (g := (mkF m 1 #[.val (.ref a)] [(.ref a)])) rfl rfl (hb hby d39_1)
  refine go_of (B := (T1.setTop (mkF m 4 #[.val (.ref a)] [(.ref d)]))) (st1) ?_
  obtain ⟨cl2, Ar2, q2, Sz2, Nn2, Hh2, G2⟩ := id (A.2.2)
  have ln2 := len_of Sz2 Nn2
  refine go_of (B := (T1.setTop (mkF m 5 #[.val (.ref a)] [(.int (3 : Int32))]))) (fun _ kk => X1.arraylength hx (by rw [e1]; exact Ar2.1) (State.isArrayOf_alike hZ.alike Ar2.2.1) (g := (mkF m 4 #[.val (.ref a)] [(.ref d)])) rfl rfl (hb hby d39_4) _ (by rw [ln2]; exact kk)) ?_
  refine go_of (B := (T1.setTop (mkF m 13 #[.val (.ref a)] [(.int (0 : Int32))]))) (fun _ kk => XS.ifYes X1.here hx rfl (pc0 := 5) (pc' := 12) rfl (hb hby d39_5) rfl ((if0 _ _).trans (feq (by decide : ¬ ((3 : Int32) = (0 : Int32)))).2) (by decide) (by decide) (XS.iconst X1.here hx rfl (hb hby d39_12) kk)) ?_
  refine go_end X1 (v := some (.int (nar .boolean (0 : Int32)))) (fun h => by rw [Bd.returns] at h; cases h) Bd.notSynchronized (by decide) (by decide) (Q := (Q_li_3 Z a x0 x1 x2 d kD h0 n0)) ?_ (fun fs hr => retN X1 hx (t := .boolean) Bd.returns (by simp) (hb hby d39_13) hr)
  unfold Q_li_3
  try rw [e1]
  exact ⟨rfl, N0, rfl⟩
theorem d40_0 : decode jdk_45_method_3_code 0 = .ok (.aload_n 0, 1) := by decide +kernel
theorem d40_1 : decode jdk_45_method_3_code 1 = .ok (.getfield 7, 3) := by decide +kernel
theorem d40_4 : decode jdk_45_method_3_code 4 = .ok (.arraylength, 1) := by decide +kernel
theorem d40_5 : decode jdk_45_method_3_code 5 = .ok (.ireturn, 1) := by decide +kernel
def Q_ls_3 (Z : State) (a : Addr) (x0 : Addr) (x1 : Addr) (x2 : Addr) (d : Addr) (kD : ClassId) (h0 : Heap) (n0 : Nat) (v : Option Value) (h : Heap) (L : List Loc) : Prop := v = some (.int 3) ∧ Fr n0 L ∧ h = h0
theorem ef_ls_3 (m : MethodId) (a : Addr)  : entryFrame m #[(.ref a)] 1 = mkF m 0 #[.val (.ref a)] [] := by first | (simp [entryFrame, mkF, argsToLocals, Value.category]; done) | rfl
theorem ls_3 (l : Launch) (Z : State) (a0 : Array Value) (hw : TW a0 Z) (ws : List Cond) (a : Addr) (x0 : Addr) (x1 : Addr) (x2 : Addr) (d : Addr) (kD : ClassId) (h0 : Heap) (n0 : Nat) (Z0 : n0 ≤ h0.size) (A : L3 Z h0 a d kD x0 x1 x2) :
    own_MF l Z MN25 jdk_45_method_3_code 1 (some .int) ws (own_R 0 0 0 0) #[(.ref a)] h0 (Q_ls_3 Z a x0 x1 x2 d kD h0 n0) := by
  have wd := @own_wd _ _ hw
  refine MetFree.of_bodySF (plainFor_of_name pn_java_util_ImmutableCollections_ListN) hisR ?_
  intro p e s m args below meth c s₁ Bd hml0 hP hK
  obtain ⟨rfl, hZ, hh⟩ := hP
  have hx := Bd.exec
  have hby := Bd.bytes
  have hml : c.maxLocals = 1 := hml0
  have hown : s.vm.findClass "java/util/ImmutableCollections$ListN" = some m.cls := findClass_of_methodNamed Bd.named
  have hnm := (name_of_methodNamed Bd.named Bd.method).1
  have X0 : Stand p l e (own_R 0 0 0 0) s m #[(.ref a)] below meth c s₁ [] 0 0 := Stand.of_body Bd
  have e0 : s₁.heap = h0 := by rw [← hh, Bd.state]; rfl
  have N0 := Fr.nil n0
  refine go_of (A := s₁.setTop (entryFrame m #[(.ref a)] 1)) (B := s₁.setTop (mkF m 0 #[.val (.ref a)] [])) (fun _ kk' => castTop (ef_ls_3 m a) kk') ?_
  refine go_of (B := (s₁.setTop (mkF m 1 #[.val (.ref a)] [(.ref a)]))) (fun _ kk => XS.aloadN X0.here hx rfl (hb hby d40_0) rfl rfl kk) ?_
  obtain ⟨T1, X1, e1, st1⟩ := getF X0 hx hZ hown (host := "") (Or.inl (wd 289 rfl)) Via.refl e0 A.2.1 (g := (mkF m 1 #[.val (.ref a)] [(.ref a)])) rfl rfl (hb hby d40_1)
  refine go_of (B := (T1.setTop (mkF m 4 #[.val (.ref a)] [(.ref d)]))) (st1) ?_
  obtain ⟨cl2, Ar2, q2, Sz2, Nn2, Hh2, G2⟩ := id (A.2.2)
  have ln2 := len_of Sz2 Nn2
  refine go_of (B := (T1.setTop (mkF m 5 #[.val (.ref a)] [(.int (3 : Int32))]))) (fun _ kk => X1.arraylength hx (by rw [e1]; exact Ar2.1) (State.isArrayOf_alike hZ.alike Ar2.2.1) (g := (mkF m 4 #[.val (.ref a)] [(.ref d)])) rfl rfl (hb hby d40_4) _ (by rw [ln2]; exact kk)) ?_
  refine go_end X1 (v := some (.int (3 : Int32))) (fun h => by rw [Bd.returns] at h; cases h) Bd.notSynchronized (by decide) (by decide) (Q := (Q_ls_3 Z a x0 x1 x2 d kD h0 n0)) ?_ (fun fs hr => own_retI X1 hx Bd.returns (hb hby d40_5) hr)
  unfold Q_ls_3
  try rw [e1]
  exact ⟨rfl, N0, rfl⟩
theorem d41_0 : decode jdk_45_method_4_code 0 = .ok (.aload_n 0, 1) := by decide +kernel
theorem d41_1 : decode jdk_45_method_4_code 1 = .ok (.getfield 7, 3) := by decide +kernel
theorem d41_4 : decode jdk_45_method_4_code 4 = .ok (.iload_n 1, 1) := by decide +kernel
theorem d41_5 : decode jdk_45_method_4_code 5 = .ok (.aaload, 1) := by decide +kernel
theorem d41_6 : decode jdk_45_method_4_code 6 = .ok (.areturn, 1) := by decide +kernel
def Q_lg_3 (Z : State) (a : Addr) (x0 : Addr) (x1 : Addr) (x2 : Addr) (d : Addr) (kD : ClassId) (h0 : Heap) (n0 : Nat) (v : Option Value) (h : Heap) (L : List Loc) : Prop := v = some (.ref x2) ∧ Fr n0 L ∧ h = h0
theorem ef_lg_3 (m : MethodId) (a : Addr)  : entryFrame m #[(.ref a), (.int (2 : Int32))] 2 = mkF m 0 #[.val (.ref a), .val (.int (2 : Int32))] [] := by first | (simp [entryFrame, mkF, argsToLocals, Value.category]; done) | rfl
theorem lg_3 (l : Launch) (Z : State) (a0 : Array Value) (hw : TW a0 Z) (ws : List Cond) (a : Addr) (x0 : Addr) (x1 : Addr) (x2 : Addr) (d : Addr) (kD : ClassId) (h0 : Heap) (n0 : Nat) (Z0 : n0 ≤ h0.size) (A : L3 Z h0 a d kD x0 x1 x2) :
    own_MF l Z MN24 jdk_45_method_4_code 2 (some (.object "java/lang/Object")) ws (own_R 0 0 0 0) #[(.ref a), (.int (2 : Int32))] h0 (Q_lg_3 Z a x0 x1 x2 d kD h0 n0) := by
  have wd := @own_wd _ _ hw
  refine MetFree.of_bodySF (plainFor_of_name pn_java_util_ImmutableCollections_ListN) hisR ?_
  intro p e s m args below meth c s₁ Bd hml0 hP hK
  obtain ⟨rfl, hZ, hh⟩ := hP
  have hx := Bd.exec
  have hby := Bd.bytes
  have hml : c.maxLocals = 2 := hml0
  have hown : s.vm.findClass "java/util/ImmutableCollections$ListN" = some m.cls := findClass_of_methodNamed Bd.named
  have hnm := (name_of_methodNamed Bd.named Bd.method).1
  have X0 : Stand p l e (own_R 0 0 0 0) s m #[(.ref a), (.int (2 : Int32))] below meth c s₁ [] 0 0 := Stand.of_body Bd
  have e0 : s₁.heap = h0 := by rw [← hh, Bd.state]; rfl
  have N0 := Fr.nil n0
  refine go_of (A := s₁.setTop (entryFrame m #[(.ref a), (.int (2 : Int32))] 2)) (B := s₁.setTop (mkF m 0 #[.val (.ref a), .val (.int (2 : Int32))] [])) (fun _ kk' => castTop (ef_lg_3 m a) kk') ?_
  refine go_of (B := (s₁.setTop (mkF m 1 #[.val (.ref a), .val (.int (2 : Int32))] [(.ref a)]))) (fun _ kk => XS.aloadN X0.here hx rfl (hb hby d41_0) rfl rfl kk) ?_
  obtain ⟨T1, X1, e1, st1⟩ := getF X0 hx hZ hown (host := "") (Or.inl (wd 289 rfl)) Via.refl e0 A.2.1 (g := (mkF m 1 #[.val (.ref a), .val (.int (2 : Int32))] [(.ref a)])) rfl rfl (hb hby d41_1)
  refine go_of (B := (T1.setTop (mkF m 4 #[.val (.ref a), .val (.int (2 : Int32))] [(.ref d)]))) (st1) ?_
  refine go_of (B := (T1.setTop (mkF m 5 #[.val (.ref a), .val (.int (2 : Int32))] [(.int (2 : Int32)), (.ref d)]))) (fun _ kk => XS.iloadN X1.here hx rfl (hb hby d41_4) rfl kk) ?_
  obtain ⟨cl2, Ar2, q2, Sz2, Nn2, Hh2, G2⟩ := id (A.2.2)
  refine go_of (B := (T1.setTop (mkF m 6 #[.val (.ref a), .val (.int (2 : Int32))] [(.ref x2)]))) (fun _ kk => X1.aaload hx (j := (2 : Int32)) (v := (.ref x2)) (by rw [e1]; exact Ar2.1) (State.isArrayOf_alike hZ.alike Ar2.2.1) rfl Ar2.2.2 (inb_of Sz2 ⟨by decide, by decide⟩) (Hh2.at (inb_of Sz2 ⟨by decide, by decide⟩) rfl) (g := (mkF m 5 #[.val (.ref a), .val (.int (2 : Int32))] [(.int (2 : Int32)), (.ref d)])) rfl rfl (hb hby d41_5) _ kk) ?_
  refine go_end X1 (v := some (.ref x2)) (fun h => by rw [Bd.returns] at h; cases h) Bd.notSynchronized (by decide) (by decide) (Q := (Q_lg_3 Z a x0 x1 x2 d kD h0 n0)) ?_ (fun fs hr => own_retA X1 hx Bd.returns rfl rfl (hb hby d41_6) hr)
  unfold Q_lg_3
  try rw [e1]
  exact ⟨rfl, N0, rfl⟩
def Q_lim_3 (Z : State) (a : Addr) (al : Addr) (v0 : Value) (d : Addr) (mc : Int32) (kD : ClassId) (x0 : Addr) (x1 : Addr) (x2 : Addr) (mr : Addr) (rl : Addr) (h0 : Heap) (n0 : Nat) (v : Option Value) (h : Heap) (L : List Loc) : Prop := ∃ (t : Addr) (dd : Addr) (kk : ClassId), v = none ∧ Fr n0 L ∧ h0.size ≤ t ∧ Keep h0 h [a] ∧ Exa Z h a "com/example/wombat/wombat/rules/Limit" ∧ Fld Z h a "com/example/wombat/wombat/rules/Limit" "descriptors" "Ljava/util/List;" (.ref t) ∧ L3 Z h t dd kk x0 x1 x2 ∧ h0.size ≤ dd
theorem ef_lim_3 (m : MethodId) (a : Addr) (al : Addr)  : entryFrame m #[(.ref a), (.ref al)] 2 = mkF m 0 #[.val (.ref a), .val (.ref al)] [] := by first | (simp [entryFrame, mkF, argsToLocals, Value.category]; done) | rfl
theorem lim_3 (l : Launch) (Z : State) (a0 : Array Value) (hw : TW a0 Z) (ws : List Cond) (a : Addr) (al : Addr) (v0 : Value) (d : Addr) (mc : Int32) (kD : ClassId) (x0 : Addr) (x1 : Addr) (x2 : Addr) (mr : Addr) (rl : Addr) (h0 : Heap) (n0 : Nat) (Z0 : n0 ≤ h0.size) (A : AL Z h0 al mc d 3) (M : own_Mir Z "[Ljava/lang/Object;" mr) (VD : Arv Z h0 d kD (.object "java/lang/Object") 10 [.ref x0, .ref x1, .ref x2, .null, .null, .null, .null, .null, .null, .null] .null) (Ix0 : Ins Z h0 x0 "java/lang/Object" true) (Ix1 : Ins Z h0 x1 "java/lang/Object" true) (Ix2 : Ins Z h0 x2 "java/lang/Object" true) (ED : Exa Z h0 d "[Ljava/lang/Object;") (Ea : Exa Z h0 a "com/example/wombat/wombat/rules/Limit") (Fa0 : Fld Z h0 a "com/example/wombat/wombat/rules/Limit" "descriptors" "Ljava/util/List;" v0) (g : n0 ≤ a) (Ed : Exa Z h0 x2 "com/example/wombat/wombat/rules/Descriptor") (Fd : Fld Z h0 x2 "com/example/wombat/wombat/rules/Descriptor" "rateLimit" "Lcom/example/wombat/wombat/rules/RateLimit;" (.ref rl)) :
    own_MF l Z MN3 prog_28_method_1_code 2 none ws (own_R 9 3 8 115) #[(.ref a), (.ref al)] h0 (Q_lim_3 Z a al v0 d mc kD x0 x1 x2 mr rl h0 n0) := by
  have wd := @own_wd _ _ hw
  refine MetFree.of_bodySF (plainFor_of_name pn_com_example_wombat_wombat_rules_Limit) hisR ?_
  intro p e s m args below meth c s₁ Bd hml0 hP hK
  obtain ⟨rfl, hZ, hh⟩ := hP
  have hx := Bd.exec
  have hby := Bd.bytes
  have hml : c.maxLocals = 2 := hml0
  have hown : s.vm.findClass "com/example/wombat/wombat/rules/Limit" = some m.cls := findClass_of_methodNamed Bd.named
  have hnm := (name_of_methodNamed Bd.named Bd.method).1
  have X0 : Stand p l e (own_R 9 3 8 115) s m #[(.ref a), (.ref al)] below meth c s₁ [] 0 0 := Stand.of_body Bd
  have e0 : s₁.heap = h0 := by rw [← hh, Bd.state]; rfl
  have N0 := Fr.nil n0
  have lta := own_nlt (Ea.lt)
  have lta' := own_nlt (A.1.lt)
  have ltx := own_nlt (Ed.lt)
  refine go_of (A := s₁.setTop (entryFrame m #[(.ref a), (.ref al)] 2)) (B := s₁.setTop (mkF m 0 #[.val (.ref a), .val (.ref al)] [])) (fun _ kk' => castTop (ef_lim_3 m a al) kk') ?_
  refine go_of (B := (s₁.setTop (mkF m 1 #[.val (.ref a), .val (.ref al)] [(.ref a)]))) (fun _ kk => XS.aloadN X0.here hx rfl (hb hby d19_0) rfl rfl kk) ?_
  obtain ⟨_, _, ⟨T1, L1, k1, n1⟩, -, X1, ⟨Lc1, hQ1, l1, y1, z1⟩, st1⟩ := X0.specialBack hx (y := MN8) rfl hown (mvT hZ (wd 153 rfl)) (mvT hZ (wd 16 rfl)) (mvT hZ (wd 19 rfl)) (by decide) (backOf (W := 0) (rm3 l Z a0 hw [] a h0 n0 (by omega)) hZ (wd 19 rfl) (wd 18 rfl) (by decide) (by decide)) (g := (mkF m 1 #[.val (.ref a), .val (.ref al)] [(.ref a)])) rfl (by rw [hml]; rfl) (Steps.refl _) (a := a) (argsL := []) (rest := []) (lenOf pd___V rfl) rfl (Nat.le_of_eq rfl) (hb hby d19_1) (fun _ _ => ⟨rfl, e0, (by decide : 0 + 0 ≤ _), (by decide : 0 + 0 ≤ _)⟩)
  dsimp only [Pt.U, Pt.locs, Pt.cells, Pt.slots] at X1 l1 y1 z1 st1 hQ1
  subst l1 y1 z1
  obtain ⟨rfl, N1q, e1⟩ := hQ1
  have N1 := Fr.app N0 N1q
  refine go_tr (B := (T1.setTop (mkF m 4 #[.val (.ref a), .val (.ref al)] []))) (st1) ?_
  refine go_of (B := (T1.setTop (mkF m 5 #[.val (.ref a), .val (.ref al)] [(.ref al)]))) (fun _ kk => XS.aloadN X1.here hx rfl (hb hby d19_4) rfl rfl kk) ?_
  obtain ⟨_, _, ⟨T2, L2, k2, n2⟩, -, X2, ⟨Lc2, hQ2, l2, y2, z2⟩, st2⟩ := Jvm.LawKit.callS X1 hx (y := MN26) hown (mvT hZ (wd 154 rfl)) (mvT hZ (wd 65 rfl)) (mvT hZ (wd 51 rfl)) (mvT hZ (wd 66 rfl)) (by decide) (backOf (W := 0) (co_3 l Z a0 hw [] al d mc kD x0 x1 x2 mr h0 n0 (by omega) A M VD Ix0 Ix1 Ix2 ED) hZ (wd 66 rfl) (wd 51 rfl) (by decide) (by decide)) (g := (mkF m 5 #[.val (.ref a), .val (.ref al)] [(.ref al)])) rfl (by rw [hml]; rfl) (argsL := [(.ref al)]) (rest := []) (lenOf pd__Ljava_util_Collection__Ljava_util_List_ rfl) rfl (Nat.le_of_eq rfl) (hb hby d19_5) (fun _ _ => ⟨rfl, e1, (by decide : 0 + 3 ≤ _), (by decide : 0 + 8 ≤ _)⟩)
  dsimp only [Pt.U, Pt.locs, Pt.cells, Pt.slots] at X2 l2 y2 z2 st2 hQ2
  subst l2 y2 z2
  obtain ⟨b2, d2, k2, rfl, N2q, lo2, K2, A2, lod2⟩ := hQ2
  have lo2 := own_nle lo2
  have N2 := Fr.app N1 N2q
  have hi2 := own_nlt (A2.1.lt)
  have lod2 := own_nle lod2
  have sz2 := K2.1
  refine go_of (B := (T2.setTop (mkF m 8 #[.val (.ref a), .val (.ref al)] [(.ref b2)]))) (st2) ?_
  refine go_of (B := (T2.setTop (mkF m 10 #[.val (.ref a), .val (.ref b2)] [(.ref b2)]))) (fun _ kk => XS.astoreN X2.here hx rfl (hb hby d19_8) rfl rfl rfl (XS.aloadN X2.here hx rfl (hb hby d19_9) rfl rfl kk)) ?_
  obtain ⟨cq3, kq3, q3a, q3b, q3c⟩ := isOf hZ rfl A2.1
  obtain ⟨_, _, ⟨T3, L3, k3, n3⟩, -, X3, ⟨Lc3, hQ3, l3, y3, z3⟩, st3⟩ := X2.interfaceBack hx (xi := MN28) (y := (⟨"java/util/ImmutableCollections$ListN", "isEmpty", "()Z"⟩ : MethodName)) hown (mvT hZ (wd 228 rfl)) (mvT hZ (wd 229 rfl)) (mvT hZ (wd 230 rfl)) (mvT hZ (wd 292 rfl)) (mvT hZ (wd 293 rfl)) (mvT hZ (wd 294 rfl)) (mvT hZ (wd 295 rfl)) (mvT hZ (wd 81 rfl)) (by decide) (backOf (W := 0) (li_3 l Z a0 hw [] b2 x0 x1 x2 d2 k2 T2.heap n0 (by omega) ⟨A2.1, A2.2.1, A2.2.2⟩) hZ (wd 296 rfl) (wd 281 rfl) (by decide) (by decide)) q3a q3b q3c (g := (mkF m 10 #[.val (.ref a), .val (.ref b2)] [(.ref b2)])) rfl (by rw [hml]; rfl) (Steps.refl _) (argsL := []) (rest := []) (lenOf pd___Z rfl) rfl (Nat.le_of_eq rfl) (hb hby d19_10) (fun _ _ => ⟨rfl, rfl, (by decide : 3 + 0 ≤ _), (by decide : 8 + 0 ≤ _)⟩)
  dsimp only [Pt.U, Pt.locs, Pt.cells, Pt.slots] at X3 l3 y3 z3 st3 hQ3
  subst l3 y3 z3
  obtain ⟨rfl, N3q, e3⟩ := hQ3
  have N3 := Fr.app N2 N3q
  refine go_tr (B := (T3.setTop (mkF m 15 #[.val (.ref a), .val (.ref b2)] [(.int (0 : Int32))]))) (st3) ?_
  refine go_of (B := (T3.setTop (mkF m 20 #[.val (.ref a), .val (.ref b2)] [(.ref b2), (.ref b2)]))) (fun _ kk => XS.ifNo X3.here hx rfl (hb hby d19_15) rfl ((if0 _ _).trans (teq (by decide : (0 : Int32) = (0 : Int32))).2) (XS.aloadN X3.here hx rfl (hb hby d19_18) rfl rfl (XS.aloadN X3.here hx rfl (hb hby d19_19) rfl rfl kk))) ?_
  obtain ⟨cq4, kq4, q4a, q4b, q4c⟩ := isOf hZ e3 A2.1
  obtain ⟨_, _, ⟨T4, L4, k4, n4⟩, -, X4, ⟨Lc4, hQ4, l4, y4, z4⟩, st4⟩ := X3.interfaceBack hx (xi := MN31) (y := MN25) hown (mvT hZ (wd 237 rfl)) (mvT hZ (wd 238 rfl)) (mvT hZ (wd 239 rfl)) (mvT hZ (wd 297 rfl)) (mvT hZ (wd 298 rfl)) (mvT hZ (wd 299 rfl)) (mvT hZ (wd 300 rfl)) (mvT hZ (wd 81 rfl)) (by decide) (backOf (W := 1) (ls_3 l Z a0 hw [] b2 x0 x1 x2 d2 k2 T2.heap n0 (by omega) ⟨A2.1, A2.2.1, A2.2.2⟩) hZ (wd 301 rfl) (wd 281 rfl) (by decide) (by decide)) q4a q4b q4c (g := (mkF m 20 #[.val (.ref a), .val (.ref b2)] [(.ref b2), (.ref b2)])) rfl (by rw [hml]; rfl) (Steps.refl _) (argsL := []) (rest := [(.ref b2)]) (lenOf pd___I rfl) rfl (Nat.le_of_eq rfl) (hb hby d19_20) (fun _ _ => ⟨rfl, e3, (by decide : 3 + 0 ≤ _), (by decide : 8 + 0 ≤ _)⟩)
  dsimp only [Pt.U, Pt.locs, Pt.cells, Pt.slots] at X4 l4 y4 z4 st4 hQ4
  subst l4 y4 z4
  obtain ⟨rfl, N4q, e4⟩ := hQ4
  have N4 := Fr.app N3 N4q
  refine go_tr (B := (T4.setTop (mkF m 25 #[.val (.ref a), .val (.ref b2)] [(.int (3 : Int32)), (.ref b2)]))) (st4) ?_
  refine go_of (B := (T4.setTop (mkF m 27 #[.val (.ref a), .val (.ref b2)] [(.int (2 : Int32)), (.ref b2)]))) (fun _ kk => XS.iconst X4.here hx rfl (hb hby d19_25) (XS.isub X4.here hx rfl (hb hby d19_26) rfl kk)) ?_
  obtain ⟨cq5, kq5, q5a, q5b, q5c⟩ := isOf hZ e4 A2.1
  obtain ⟨_, _, ⟨T5, L5, k5, n5⟩, -, X5, ⟨Lc5, hQ5, l5, y5, z5⟩, st5⟩ := X4.interfaceBack hx (xi := MN27) (y := MN24) hown (mvT hZ (wd 245 rfl)) (mvT hZ (wd 246 rfl)) (mvT hZ (wd 247 rfl)) (mvT hZ (wd 302 rfl)) (mvT hZ (wd 303 rfl)) (mvT hZ (wd 304 rfl)) (mvT hZ (wd 305 rfl)) (mvT hZ (wd 81 rfl)) (by decide) (backOf (W := 0) (lg_3 l Z a0 hw [] b2 x0 x1 x2 d2 k2 T2.heap n0 (by omega) ⟨A2.1, A2.2.1, A2.2.2⟩) hZ (wd 306 rfl) (wd 281 rfl) (by decide) (by decide)) q5a q5b q5c (g := (mkF m 27 #[.val (.ref a), .val (.ref b2)] [(.int (2 : Int32)), (.ref b2)])) rfl (by rw [hml]; rfl) (Steps.refl _) (argsL := [(.int (2 : Int32))]) (rest := []) (lenOf pd__I_Ljava_lang_Object_ rfl) rfl (Nat.le_of_eq rfl) (hb hby d19_27) (fun _ _ => ⟨rfl, e4, (by decide : 3 + 0 ≤ _), (by decide : 8 + 0 ≤ _)⟩)
  dsimp only [Pt.U, Pt.locs, Pt.cells, Pt.slots] at X5 l5 y5 z5 st5 hQ5
  subst l5 y5 z5
  obtain ⟨rfl, N5q, e5⟩ := hQ5
  have N5 := Fr.app N4 N5q
  refine go_tr (B := (T5.setTop (mkF m 32 #[.val (.ref a), .val (.ref b2)] [(.ref x2)]))) (st5) ?_
  have cf_7 := (Ed.keep K2)
  obtain ⟨T6, X6, e6, st6⟩ := castY X5 hx hZ hown (wd 253 rfl) e5 (Ins.self cf_7) (g := (mkF m 32 #[.val (.ref a), .val (.ref b2)] [(.ref x2)])) rfl rfl (hb hby d19_32)
  refine go_of (B := (T6.setTop (mkF m 35 #[.val (.ref a), .val (.ref b2)] [(.ref x2)]))) (st6) ?_
  have cf_8 := (Fd.keep K2 nin0)
  obtain ⟨cq9, kq9, q9a, q9b, q9c⟩ := isOf hZ e6 cf_7
  obtain ⟨_, _, ⟨T9, L9, k9, n9⟩, -, X9, ⟨Lc9, hQ9, l9, y9, z9⟩, st9⟩ := X6.virtualBack hx (y := MN2) (z := MN2) hown (mvT hZ (wd 255 rfl)) (mvT hZ (wd 256 rfl)) (notFace_of_selects (args := #[]) (mvT hZ (wd 258 rfl))) (mvT hZ (wd 258 rfl)) (mvT hZ (wd 257 rfl)) (by decide) (backOf (W := 0) (dsr l Z a0 hw [] x2 rl T2.heap n0 (by omega) cf_8) hZ (wd 259 rfl) (wd 37 rfl) (by decide) (by decide)) q9a q9c (g := (mkF m 35 #[.val (.ref a), .val (.ref b2)] [(.ref x2)])) rfl (by rw [hml]; rfl) (Steps.refl _) (argsL := []) (rest := []) (lenOf pd___Lcom_example_wombat_wombat_rules_RateLimit_ rfl) rfl (Nat.le_of_eq rfl) (hb hby d19_35) (fun _ _ => ⟨rfl, e6, (by decide : 3 + 0 ≤ _), (by decide : 8 + 0 ≤ _)⟩)
  dsimp only [Pt.U, Pt.locs, Pt.cells, Pt.slots] at X9 l9 y9 z9 st9 hQ9
  subst l9 y9 z9
  obtain ⟨rfl, N9q, e9⟩ := hQ9
  have N9 := Fr.app N5 N9q
  refine go_tr (B := (T9.setTop (mkF m 38 #[.val (.ref a), .val (.ref b2)] [(.ref rl)]))) (st9) ?_
  refine go_of (B := (T9.setTop (mkF m 53 #[.val (.ref a), .val (.ref b2)] [(.ref b2), (.ref a)]))) (fun _ kk => XS.ifnonnullYes X9.here hx rfl (pc0 := 38) (pc' := 51) rfl (hb hby d19_38) rfl (by decide) (by decide) (XS.aloadN X9.here hx rfl (hb hby d19_51) rfl rfl (XS.aloadN X9.here hx rfl (hb hby d19_52) rfl rfl kk))) ?_
  have cf_10 := (Ea.keep K2)
  have cf_11 := (Fa0.keep K2 nin0)
  obtain ⟨T12, h12, X12, e12, W12, st12⟩ := putF X9 hx hZ hown (host := "") (Or.inl (wd 260 rfl)) Via.refl e9 cf_11 cf_10 (Or.inr ⟨(wd 261 rfl), rfl, hnm⟩) (wd 148 rfl) (ty := (.object "java/util/List")) (by decide) rfl rfl (g := (mkF m 53 #[.val (.ref a), .val (.ref b2)] [(.ref b2), (.ref a)])) rfl rfl (hb hby d19_53)
  have sz12 := W12.size
  have Fw12 := cf_11.same W12
  have N12 := Fr.snoc X12 N9 (g : n0 ≤ a)
  refine go_of (B := (T12.setTop (mkF m 56 #[.val (.ref a), .val (.ref b2)] []))) (st12) ?_
  have cf_13 := (cf_10.wr W12)
  have cf_14 := (A2.1.wr W12)
  have cf_15 := (A2.2.1.other W12 (Or.inl (by first | omega | exact own_ne (by omega) | exact own_le (by omega))))
  have cf_16 := (A2.2.2.other W12 (by first | omega | exact own_ne (by omega) | exact own_le (by omega)))
  refine go_end X12 (v := none) (fun _ => rfl) Bd.notSynchronized (by decide) (by decide) (Q := (Q_lim_3 Z a al v0 d mc kD x0 x1 x2 mr rl h0 n0)) ?_ (fun fs hr => X12.returnOut hx Bd.returns (hb hby d19_56) hr)
  unfold Q_lim_3
  try rw [e12]
  exact ⟨b2, d2, k2, rfl, N12, by omega, (((Keep.refl h0 [a]).trans K2 all0).wr W12 (Or.inl (List.mem_of_getElem? (i := 0) rfl))), cf_13, Fw12, ⟨cf_14, cf_15, cf_16⟩, by omega⟩
def Q_lr_3 (Z : State) (a : Addr) (t : Addr) (x0 : Addr) (x1 : Addr) (x2 : Addr) (d : Addr) (kD : ClassId) (rl : Addr) (h0 : Heap) (n0 : Nat) (v : Option Value) (h : Heap) (L : List Loc) : Prop := v = some (.ref rl) ∧ Fr n0 L ∧ h = h0
theorem ef_lr_3 (m : MethodId) (a : Addr)  : entryFrame m #[(.ref a)] 1 = mkF m 0 #[.val (.ref a)] [] := by first | (simp [entryFrame, mkF, argsToLocals, Value.category]; done) | rfl
theorem lr_3 (l : Launch) (Z : State) (a0 : Array Value) (hw : TW a0 Z) (ws : List Cond) (a : Addr) (t : Addr) (x0 : Addr) (x1 : Addr) (x2 : Addr) (d : Addr) (kD : ClassId) (rl : Addr) (h0 : Heap) (n0 : Nat) (Z0 : n0 ≤ h0.size) (Fl : Fld Z h0 a "com/example/wombat/wombat/rules/Limit" "descriptors" "Ljava/util/List;" (.ref t)) (A : L3 Z h0 t d kD x0 x1 x2) (Ed : Exa Z h0 x2 "com/example/wombat/wombat/rules/Descriptor") (Fd : Fld Z h0 x2 "com/example/wombat/wombat/rules/Descriptor" "rateLimit" "Lcom/example/wombat/wombat/rules/RateLimit;" (.ref rl)) :
    own_MF l Z MN4 prog_28_method_2_code 1 (some (.object "com/example/wombat/wombat/rules/RateLimit")) ws (own_R 1 0 0 13) #[(.ref a)] h0 (Q_lr_3 Z a t x0 x1 x2 d kD rl h0 n0) := by
  have wd := @own_wd _ _ hw
  refine MetFree.of_bodySF (plainFor_of_name pn_com_example_wombat_wombat_rules_Limit) hisR ?_
  intro p e s m args below meth c s₁ Bd hml0 hP hK
  obtain ⟨rfl, hZ, hh⟩ := hP
  have hx := Bd.exec
  have hby := Bd.bytes
  have hml : c.maxLocals = 1 := hml0
  have hown : s.vm.findClass "com/example/wombat/wombat/rules/Limit" = some m.cls := findClass_of_methodNamed Bd.named
  have hnm := (name_of_methodNamed Bd.named Bd.method).1
  have X0 : Stand p l e (own_R 1 0 0 13) s m #[(.ref a)] below meth c s₁ [] 0 0 := Stand.of_body Bd
  have e0 : s₁.heap = h0 := by rw [← hh, Bd.state]; rfl
  have N0 := Fr.nil n0
  refine go_of (A := s₁.setTop (entryFrame m #[(.ref a)] 1)) (B := s₁.setTop (mkF m 0 #[.val (.ref a)] [])) (fun _ kk' => castTop (ef_lr_3 m a) kk') ?_
  refine go_of (B := (s₁.setTop (mkF m 1 #[.val (.ref a)] [(.ref a)]))) (fun _ kk => XS.aloadN X0.here hx rfl (hb hby d34_0) rfl rfl kk) ?_
  obtain ⟨T1, X1, e1, st1⟩ := getF X0 hx hZ hown (host := "") (Or.inl (wd 260 rfl)) Via.refl e0 Fl (g := (mkF m 1 #[.val (.ref a)] [(.ref a)])) rfl rfl (hb hby d34_1)
  refine go_of (B := (T1.setTop (mkF m 4 #[.val (.ref a)] [(.ref t)]))) (st1) ?_
  refine go_of (B := (T1.setTop (mkF m 5 #[.val (.ref a)] [(.ref a), (.ref t)]))) (fun _ kk => XS.aloadN X1.here hx rfl (hb hby d34_4) rfl rfl kk) ?_
  obtain ⟨T2, X2, e2, st2⟩ := getF X1 hx hZ hown (host := "") (Or.inl (wd 260 rfl)) Via.refl e1 Fl (g := (mkF m 5 #[.val (.ref a)] [(.ref a), (.ref t)])) rfl rfl (hb hby d34_5)
  refine go_of (B := (T2.setTop (mkF m 8 #[.val (.ref a)] [(.ref t), (.ref t)]))) (st2) ?_
  obtain ⟨cq3, kq3, q3a, q3b, q3c⟩ := isOf hZ e2 A.1
  obtain ⟨_, _, ⟨T3, L3, k3, n3⟩, -, X3, ⟨Lc3, hQ3, l3, y3, z3⟩, st3⟩ := X2.interfaceBack hx (xi := MN31) (y := MN25) hown (mvT hZ (wd 237 rfl)) (mvT hZ (wd 238 rfl)) (mvT hZ (wd 239 rfl)) (mvT hZ (wd 297 rfl)) (mvT hZ (wd 298 rfl)) (mvT hZ (wd 299 rfl)) (mvT hZ (wd 300 rfl)) (mvT hZ (wd 81 rfl)) (by decide) (backOf (W := 1) (ls_3 l Z a0 hw [] t x0 x1 x2 d kD h0 n0 (by omega) ⟨A.1, A.2.1, A.2.2⟩) hZ (wd 301 rfl) (wd 281 rfl) (by decide) (by decide)) q3a q3b q3c (g := (mkF m 8 #[.val (.ref a)] [(.ref t), (.ref t)])) rfl (by rw [hml]; rfl) (Steps.refl _) (argsL := []) (rest := [(.ref t)]) (lenOf pd___I rfl) rfl (Nat.le_of_eq rfl) (hb hby d34_8) (fun _ _ => ⟨rfl, e2, (by decide : 0 + 0 ≤ _), (by decide : 0 + 0 ≤ _)⟩)
  dsimp only [Pt.U, Pt.locs, Pt.cells, Pt.slots] at X3 l3 y3 z3 st3 hQ3
  subst l3 y3 z3
  obtain ⟨rfl, N3q, e3⟩ := hQ3
  have N3 := Fr.app N0 N3q
  refine go_tr (B := (T3.setTop (mkF m 13 #[.val (.ref a)] [(.int (3 : Int32)), (.ref t)]))) (st3) ?_
  refine go_of (B := (T3.setTop (mkF m 15 #[.val (.ref a)] [(.int (2 : Int32)), (.ref t)]))) (fun _ kk => XS.iconst X3.here hx rfl (hb hby d34_13) (XS.isub X3.here hx rfl (hb hby d34_14) rfl kk)) ?_
  obtain ⟨cq4, kq4, q4a, q4b, q4c⟩ := isOf hZ e3 A.1
  obtain ⟨_, _, ⟨T4, L4, k4, n4⟩, -, X4, ⟨Lc4, hQ4, l4, y4, z4⟩, st4⟩ := X3.interfaceBack hx (xi := MN27) (y := MN24) hown (mvT hZ (wd 245 rfl)) (mvT hZ (wd 246 rfl)) (mvT hZ (wd 247 rfl)) (mvT hZ (wd 302 rfl)) (mvT hZ (wd 303 rfl)) (mvT hZ (wd 304 rfl)) (mvT hZ (wd 305 rfl)) (mvT hZ (wd 81 rfl)) (by decide) (backOf (W := 0) (lg_3 l Z a0 hw [] t x0 x1 x2 d kD h0 n0 (by omega) ⟨A.1, A.2.1, A.2.2⟩) hZ (wd 306 rfl) (wd 281 rfl) (by decide) (by decide)) q4a q4b q4c (g := (mkF m 15 #[.val (.ref a)] [(.int (2 : Int32)), (.ref t)])) rfl (by rw [hml]; rfl) (Steps.refl _) (argsL := [(.int (2 : Int32))]) (rest := []) (lenOf pd__I_Ljava_lang_Object_ rfl) rfl (Nat.le_of_eq rfl) (hb hby d34_15) (fun _ _ => ⟨rfl, e3, (by decide : 0 + 0 ≤ _), (by decide : 0 + 0 ≤ _)⟩)
  dsimp only [Pt.U, Pt.locs, Pt.cells, Pt.slots] at X4 l4 y4 z4 st4 hQ4
  subst l4 y4 z4
  obtain ⟨rfl, N4q, e4⟩ := hQ4
  have N4 := Fr.app N3 N4q
  refine go_tr (B := (T4.setTop (mkF m 20 #[.val (.ref a)] [(.ref x2)]))) (st4) ?_
  obtain ⟨T5, X5, e5, st5⟩ := castY X4 hx hZ hown (wd 253 rfl) e4 (Ins.self Ed) (g := (mkF m 20 #[.val (.ref a)] [(.ref x2)])) rfl rfl (hb hby d34_20)
  refine go_of (B := (T5.setTop (mkF m 23 #[.val (.ref a)] [(.ref x2)]))) (st5) ?_
  obtain ⟨cq6, kq6, q6a, q6b, q6c⟩ := isOf hZ e5 Ed
  obtain ⟨_, _, ⟨T6, L6, k6, n6⟩, -, X6, ⟨Lc6, hQ6, l6, y6, z6⟩, st6⟩ := X5.virtualBack hx (y := MN2) (z := MN2) hown (mvT hZ (wd 255 rfl)) (mvT hZ (wd 256 rfl)) (notFace_of_selects (args := #[]) (mvT hZ (wd 258 rfl))) (mvT hZ (wd 258 rfl)) (mvT hZ (wd 257 rfl)) (by decide) (backOf (W := 0) (dsr l Z a0 hw [] x2 rl h0 n0 (by omega) Fd) hZ (wd 259 rfl) (wd 37 rfl) (by decide) (by decide)) q6a q6c (g := (mkF m 23 #[.val (.ref a)] [(.ref x2)])) rfl (by rw [hml]; rfl) (Steps.refl _) (argsL := []) (rest := []) (lenOf pd___Lcom_example_wombat_wombat_rules_RateLimit_ rfl) rfl (Nat.le_of_eq rfl) (hb hby d34_23) (fun _ _ => ⟨rfl, e5, (by decide : 0 + 0 ≤ _), (by decide : 0 + 0 ≤ _)⟩)
  dsimp only [Pt.U, Pt.locs, Pt.cells, Pt.slots] at X6 l6 y6 z6 st6 hQ6
  subst l6 y6 z6
  obtain ⟨rfl, N6q, e6⟩ := hQ6
  have N6 := Fr.app N4 N6q
  refine go_tr (B := (T6.setTop (mkF m 26 #[.val (.ref a)] [(.ref rl)]))) (st6) ?_
  refine go_end X6 (v := some (.ref rl)) (fun h => by rw [Bd.returns] at h; cases h) Bd.notSynchronized (by decide) (by decide) (Q := (Q_lr_3 Z a t x0 x1 x2 d kD rl h0 n0)) ?_ (fun fs hr => own_retA X6 hx Bd.returns rfl rfl (hb hby d34_26) hr)
  unfold Q_lr_3
  try rw [e6]
  exact ⟨rfl, N6, rfl⟩
theorem pd__Lcom_example_wombat_wombat_rules_Algorithm_Lcom_example_wombat_wombat_rules_Unit_JJ_V : parseMethodDescriptor "(Lcom/example/wombat/wombat/rules/Algorithm;Lcom/example/wombat/wombat/rules/Unit;JJ)V" = some ⟨[(.object "com/example/wombat/wombat/rules/Algorithm"), (.object "com/example/wombat/wombat/rules/Unit"), .long, .long], none⟩ := by decide +kernel
theorem pd__Ljava_lang_String_Lcom_example_wombat_wombat_rules_RateLimit__V : parseMethodDescriptor "(Ljava/lang/String;Lcom/example/wombat/wombat/rules/RateLimit;)V" = some ⟨[(.object "java/lang/String"), (.object "com/example/wombat/wombat/rules/RateLimit")], none⟩ := by decide +kernel
theorem pd__Ljava_lang_Object__Z : parseMethodDescriptor "(Ljava/lang/Object;)Z" = some ⟨[(.object "java/lang/Object")], some .boolean⟩ := by decide +kernel
theorem pd__Ljava_util_List__V : parseMethodDescriptor "(Ljava/util/List;)V" = some ⟨[(.object "java/util/List")], none⟩ := by decide +kernel
theorem pd___J : parseMethodDescriptor "()J" = some ⟨[], some .long⟩ := by decide +kernel
def Q_rm0 (Z : State) (cnt : Int32) (fl : Int32) (r1 : Int64) (r2 : Int64) (r3 : Int64) (wT : Addr) (wA : Addr) (wE : Addr) (wM : Addr) (wD : Addr) (kD : ClassId) (mr : Addr) (h0 : Heap) (n0 : Nat) (v : Option Value) (h : Heap) (L : List Loc) : Prop := v = some (.int 1) ∧ Fr n0 L
theorem lw1 {p : Program} {l : Launch} {e : Env} {s : State} {m : MethodId} {args : Array Value} {below : List Frame} {meth : Method} {c : Code} {Z : State} {a0 : Array Value} {h0 : Heap} {n0 : Nat} (cnt : Int32) (fl : Int32) (r1 : Int64) (r2 : Int64) (r3 : Int64) (wT : Addr) (wA : Addr) (wE : Addr) (wM : Addr) (wD : Addr) (kD : ClassId) (mr : Addr) {T0 : State} {locs : List Loc}
    (X0 : Stand p l e room_1 s m args below meth c T0 locs 0 0) (hx : p.tables.exec = Jvm.exec) (hZ : Z.Warmed39 s.vm) (hw : TW a0 Z) (hby : c.code = code) (hml : c.maxLocals = 21) (hown : s.vm.findClass "com/example/wombat/wombat/rules/LimitRateLimitPinLaw" = some m.cls) (hret : meth.sig.returnType = (some .boolean)) (hlk : meth.locks = false) (e0 : T0.heap = h0) (N0 : Fr n0 locs) (Z0 : n0 ≤ h0.size) (O : Old Z n0 h0) (ST : Sta Z Z.heap "com/example/wombat/wombat/rules/RateLimit" "DEFAULT_STORE_TIMEOUT" "Ljava/time/Duration;" (.ref wT)) (SA : Sta Z Z.heap "com/example/wombat/wombat/rules/OnStoreFailure" "ALLOW" "Lcom/example/wombat/wombat/rules/OnStoreFailure;" (.ref wA)) (SE : Sta Z Z.heap "java/util/ImmutableCollections" "EMPTY_LIST" "Ljava/util/ImmutableCollections$ListN;" (.ref wE)) (EE : Exa Z Z.heap wE "java/util/ImmutableCollections$ListN") (FE : Fld Z Z.heap wE "java/util/ImmutableCollections$ListN" "allowNulls" "Z" (.int 0)) (SM : Sta Z Z.heap "java/util/ImmutableCollections" "EMPTY" "Ljava/lang/Object;" (.ref wM)) (WM : wM < n0) (SD : Sta Z Z.heap "java/util/ArrayList" "DEFAULTCAPACITY_EMPTY_ELEMENTDATA" "[Ljava/lang/Object;" (.ref wD)) (VD : Arv Z Z.heap wD kD (.object "java/lang/Object") 0 [] .null) (D0 : wD < n0) (M : own_Mir Z "[Ljava/lang/Object;" mr) :
    Go p e below (T0.setTop (mkF m 10 #[.val (.int cnt), .val (.int fl), .val (.long r1), .second, .val (.long r2), .second, .val (.long r3), .second, .val (.int (1 : Int32)), .unset, .unset, .unset, .unset, .unset, .unset, .unset, .unset, .unset, .unset, .unset, .unset] [])) (fun oo' U2' => ∃ vv' LL', oo' = .returned vv' ∧ (Q_rm0 Z cnt fl r1 r2 r3 wT wA wE wM wD kD mr h0 n0) vv' U2'.heap LL' ∧ ReturnedEndW s oo' U2' LL' room_1.cells room_1.slots) := by
  have wd := @own_wd _ _ hw
  have X0 : Stand p l e room_1 (s.setVm s.vm) m args below meth c T0 locs 0 0 := X0
  have hS : s.Since s.vm 0 := (State.WarmedH.refl s).since 0
  have WM' := own_nlt WM
  have D0' := own_nlt D0
  obtain ⟨T1, h1, X1, e1, E1, A1, D1, -, st1⟩ := newO X0 hx hZ hown (wd 1 rfl) (wd 2 rfl) (wd 3 rfl) e0 (g := (mkF m 10 #[.val (.int cnt), .val (.int fl), .val (.long r1), .second, .val (.long r2), .second, .val (.long r3), .second, .val (.int (1 : Int32)), .unset, .unset, .unset, .unset, .unset, .unset, .unset, .unset, .unset, .unset, .unset, .unset] [])) rfl (hb hby at_10) (by decide) (by decide)
  obtain ⟨b1, g1⟩ : ∃ z, z = h0.size := ⟨_, rfl⟩
  rw [← g1] at A1 D1 st1
  have hi1 := own_nlt A1.lt
  have sz1 := E1.1
  have F1_algorithm : Fld Z h1 b1 "com/example/wombat/wombat/rules/RateLimit" "algorithm" "Lcom/example/wombat/wombat/rules/Algorithm;" .null := D1 (Or.inr (wd 24 rfl)) (ty := (.object "com/example/wombat/wombat/rules/Algorithm")) (by decide)
  have F1_unit : Fld Z h1 b1 "com/example/wombat/wombat/rules/RateLimit" "unit" "Lcom/example/wombat/wombat/rules/Unit;" .null := D1 (Or.inr (wd 26 rfl)) (ty := (.object "com/example/wombat/wombat/rules/Unit")) (by decide)
  have F1_requestsPerUnit : Fld Z h1 b1 "com/example/wombat/wombat/rules/RateLimit" "requestsPerUnit" "J" (.long (0 : Int64)) := D1 (Or.inr (wd 28 rfl)) (ty := .long) (by decide)
  have F1_bucketSize : Fld Z h1 b1 "com/example/wombat/wombat/rules/RateLimit" "bucketSize" "J" (.long (0 : Int64)) := D1 (Or.inr (wd 30 rfl)) (ty := .long) (by decide)
  have F1_storeTimeout : Fld Z h1 b1 "com/example/wombat/wombat/rules/RateLimit" "storeTimeout" "Ljava/time/Duration;" .null := D1 (Or.inr (wd 32 rfl)) (ty := (.object "java/time/Duration")) (by decide)
  have F1_onStoreFailure : Fld Z h1 b1 "com/example/wombat/wombat/rules/RateLimit" "onStoreFailure" "Lcom/example/wombat/wombat/rules/OnStoreFailure;" .null := D1 (Or.inr (wd 34 rfl)) (ty := (.object "com/example/wombat/wombat/rules/OnStoreFailure")) (by decide)
  refine go_of (B := (T1.setTop (mkF m 13 #[.val (.int cnt), .val (.int fl), .val (.long r1), .second, .val (.long r2), .second, .val (.long r3), .second, .val (.int (1 : Int32)), .unset, .unset, .unset, .unset, .unset, .unset, .unset, .unset, .unset, .unset, .unset, .unset] [(.ref b1)]))) (st1) ?_
  refine go_of (B := (T1.setTop (mkF m 18 #[.val (.int cnt), .val (.int fl), .val (.long r1), .second, .val (.long r2), .second, .val (.long r3), .second, .val (.int (1 : Int32)), .unset, .unset, .unset, .unset, .unset, .unset, .unset, .unset, .unset, .unset, .unset, .unset] [(.long r1), (.long r1), .null, .null, (.ref b1), (.ref b1)]))) (fun _ kk => XS.dup X1.here hx rfl (hb hby at_13) rfl rfl (XS.aconstNull X1.here hx rfl (hb hby at_14) (XS.aconstNull X1.here hx rfl (hb hby at_15) (XS.lloadN X1.here hx rfl (hb hby at_16) rfl (XS.lloadN X1.here hx rfl (hb hby at_17) rfl kk))))) ?_
  have cf_2 := (O.ext E1)
  obtain ⟨_, _, ⟨T3, L3, k3, n3⟩, -, X3, ⟨Lc3, hQ3, l3, y3, z3⟩, st3⟩ := X1.specialBack hx (y := MN5) rfl hown (mvT hZ (wd 4 rfl)) (mvT hZ (wd 5 rfl)) (mvT hZ (wd 6 rfl)) (by decide) (backOf (W := 1) (rl4 l Z a0 hw [] b1 r1 r1 _ _ _ _ _ _ wT wA h1 n0 (by omega) cf_2 ST SA A1 F1_algorithm F1_unit F1_requestsPerUnit F1_bucketSize F1_storeTimeout F1_onStoreFailure (by first | omega | exact own_ne (by omega) | exact own_le (by omega))) hZ (wd 6 rfl) (wd 3 rfl) (by decide) (by decide)) (g := (mkF m 18 #[.val (.int cnt), .val (.int fl), .val (.long r1), .second, .val (.long r2), .second, .val (.long r3), .second, .val (.int (1 : Int32)), .unset, .unset, .unset, .unset, .unset, .unset, .unset, .unset, .unset, .unset, .unset, .unset] [(.long r1), (.long r1), .null, .null, (.ref b1), (.ref b1)])) rfl (by rw [hml]; rfl) (Steps.refl _) (a := b1) (argsL := [.null, .null, (.long r1), (.long r1)]) (rest := [(.ref b1)]) (lenOf pd__Lcom_example_wombat_wombat_rules_Algorithm_Lcom_example_wombat_wombat_rules_Unit_JJ_V rfl) rfl (Nat.le_of_eq rfl) (hb hby at_18) (fun _ _ => ⟨rfl, e1, (by decide : 1 + 0 ≤ _), (by decide : 6 + 0 ≤ _)⟩)
  dsimp only [Pt.U, Pt.locs, Pt.cells, Pt.slots] at X3 l3 y3 z3 st3 hQ3
  subst l3 y3 z3
  obtain ⟨rfl, N3q, K3, A3⟩ := hQ3
  have N3 := Fr.app N0 N3q
  have sz3 := K3.1
  refine go_tr (B := (T3.setTop (mkF m 21 #[.val (.int cnt), .val (.int fl), .val (.long r1), .second, .val (.long r2), .second, .val (.long r3), .second, .val (.int (1 : Int32)), .unset, .unset, .unset, .unset, .unset, .unset, .unset, .unset, .unset, .unset, .unset, .unset] [(.ref b1)]))) (st3) ?_
  refine go_of (B := (T3.setTop (mkF m 23 #[.val (.int cnt), .val (.int fl), .val (.long r1), .second, .val (.long r2), .second, .val (.long r3), .second, .val (.int (1 : Int32)), .val (.ref b1), .unset, .unset, .unset, .unset, .unset, .unset, .unset, .unset, .unset, .unset, .unset] []))) (fun _ kk => XS.astore X3.here hx rfl (hb hby at_21) rfl rfl rfl kk) ?_
  obtain ⟨T4, h4, X4, e4, E4, A4, D4, -, st4⟩ := newO X3 hx hZ hown (wd 1 rfl) (wd 2 rfl) (wd 3 rfl) rfl (g := (mkF m 23 #[.val (.int cnt), .val (.int fl), .val (.long r1), .second, .val (.long r2), .second, .val (.long r3), .second, .val (.int (1 : Int32)), .val (.ref b1), .unset, .unset, .unset, .unset, .unset, .unset, .unset, .unset, .unset, .unset, .unset] [])) rfl (hb hby at_23) (by decide) (by decide)
  obtain ⟨b4, g4⟩ : ∃ z, z = T3.heap.size := ⟨_, rfl⟩
  rw [← g4] at A4 D4 st4
  have hi4 := own_nlt A4.lt
  have sz4 := E4.1
  have F4_algorithm : Fld Z h4 b4 "com/example/wombat/wombat/rules/RateLimit" "algorithm" "Lcom/example/wombat/wombat/rules/Algorithm;" .null := D4 (Or.inr (wd 24 rfl)) (ty := (.object "com/example/wombat/wombat/rules/Algorithm")) (by decide)
  have F4_unit : Fld Z h4 b4 "com/example/wombat/wombat/rules/RateLimit" "unit" "Lcom/example/wombat/wombat/rules/Unit;" .null := D4 (Or.inr (wd 26 rfl)) (ty := (.object "com/example/wombat/wombat/rules/Unit")) (by decide)
  have F4_requestsPerUnit : Fld Z h4 b4 "com/example/wombat/wombat/rules/RateLimit" "requestsPerUnit" "J" (.long (0 : Int64)) := D4 (Or.inr (wd 28 rfl)) (ty := .long) (by decide)
  have F4_bucketSize : Fld Z h4 b4 "com/example/wombat/wombat/rules/RateLimit" "bucketSize" "J" (.long (0 : Int64)) := D4 (Or.inr (wd 30 rfl)) (ty := .long) (by decide)
  have F4_storeTimeout : Fld Z h4 b4 "com/example/wombat/wombat/rules/RateLimit" "storeTimeout" "Ljava/time/Duration;" .null := D4 (Or.inr (wd 32 rfl)) (ty := (.object "java/time/Duration")) (by decide)
  have F4_onStoreFailure : Fld Z h4 b4 "com/example/wombat/wombat/rules/RateLimit" "onStoreFailure" "Lcom/example/wombat/wombat/rules/OnStoreFailure;" .null := D4 (Or.inr (wd 34 rfl)) (ty := (.object "com/example/wombat/wombat/rules/OnStoreFailure")) (by decide)
  refine go_of (B := (T4.setTop (mkF m 26 #[.val (.int cnt), .val (.int fl), .val (.long r1), .second, .val (.long r2), .second, .val (.long r3), .second, .val (.int (1 : Int32)), .val (.ref b1), .unset, .unset, .unset, .unset, .unset, .unset, .unset, .unset, .unset, .unset, .unset] [(.ref b4)]))) (st4) ?_
  refine go_of (B := (T4.setTop (mkF m 33 #[.val (.int cnt), .val (.int fl), .val (.long r1), .second, .val (.long r2), .second, .val (.long r3), .second, .val (.int (1 : Int32)), .val (.ref b1), .unset, .unset, .unset, .unset, .unset, .unset, .unset, .unset, .unset, .unset, .unset] [(.long r2), (.long r2), .null, .null, (.ref b4), (.ref b4)]))) (fun _ kk => XS.dup X4.here hx rfl (hb hby at_26) rfl rfl (XS.aconstNull X4.here hx rfl (hb hby at_27) (XS.aconstNull X4.here hx rfl (hb hby at_28) (XS.lload X4.here hx rfl (hb hby at_29) rfl (XS.lload X4.here hx rfl (hb hby at_31) rfl kk))))) ?_
  have cf_5 := ((cf_2.keep K3 (allS (by first | omega | exact own_ne (by omega) | exact own_le (by omega)) all0)).ext E4)
  obtain ⟨_, _, ⟨T6, L6, k6, n6⟩, -, X6, ⟨Lc6, hQ6, l6, y6, z6⟩, st6⟩ := X4.specialBack hx (y := MN5) rfl hown (mvT hZ (wd 4 rfl)) (mvT hZ (wd 5 rfl)) (mvT hZ (wd 6 rfl)) (by decide) (backOf (W := 1) (rl4 l Z a0 hw [] b4 r2 r2 _ _ _ _ _ _ wT wA h4 n0 (by omega) cf_5 ST SA A4 F4_algorithm F4_unit F4_requestsPerUnit F4_bucketSize F4_storeTimeout F4_onStoreFailure (by first | omega | exact own_ne (by omega) | exact own_le (by omega))) hZ (wd 6 rfl) (wd 3 rfl) (by decide) (by decide)) (g := (mkF m 33 #[.val (.int cnt), .val (.int fl), .val (.long r1), .second, .val (.long r2), .second, .val (.long r3), .second, .val (.int (1 : Int32)), .val (.ref b1), .unset, .unset, .unset, .unset, .unset, .unset, .unset, .unset, .unset, .unset, .unset] [(.long r2), (.long r2), .null, .null, (.ref b4), (.ref b4)])) rfl (by rw [hml]; rfl) (Steps.refl _) (a := b4) (argsL := [.null, .null, (.long r2), (.long r2)]) (rest := [(.ref b4)]) (lenOf pd__Lcom_example_wombat_wombat_rules_Algorithm_Lcom_example_wombat_wombat_rules_Unit_JJ_V rfl) rfl (Nat.le_of_eq rfl) (hb hby at_33) (fun _ _ => ⟨rfl, e4, (by decide : 2 + 0 ≤ _), (by decide : 12 + 0 ≤ _)⟩)
  dsimp only [Pt.U, Pt.locs, Pt.cells, Pt.slots] at X6 l6 y6 z6 st6 hQ6
  subst l6 y6 z6
  obtain ⟨rfl, N6q, K6, A6⟩ := hQ6
  have N6 := Fr.app N3 N6q
  have sz6 := K6.1
  refine go_tr (B := (T6.setTop (mkF m 36 #[.val (.int cnt), .val (.int fl), .val (.long r1), .second, .val (.long r2), .second, .val (.long r3), .second, .val (.int (1 : Int32)), .val (.ref b1), .unset, .unset, .unset, .unset, .unset, .unset, .unset, .unset, .unset, .unset, .unset] [(.ref b4)]))) (st6) ?_
  refine go_of (B := (T6.setTop (mkF m 38 #[.val (.int cnt), .val (.int fl), .val (.long r1), .second, .val (.long r2), .second, .val (.long r3), .second, .val (.int (1 : Int32)), .val (.ref b1), .val (.ref b4), .unset, .unset, .unset, .unset, .unset, .unset, .unset, .unset, .unset, .unset] []))) (fun _ kk => XS.astore X6.here hx rfl (hb hby at_36) rfl rfl rfl kk) ?_
  obtain ⟨T7, h7, X7, e7, E7, A7, D7, -, st7⟩ := newO X6 hx hZ hown (wd 1 rfl) (wd 2 rfl) (wd 3 rfl) rfl (g := (mkF m 38 #[.val (.int cnt), .val (.int fl), .val (.long r1), .second, .val (.long r2), .second, .val (.long r3), .second, .val (.int (1 : Int32)), .val (.ref b1), .val (.ref b4), .unset, .unset, .unset, .unset, .unset, .unset, .unset, .unset, .unset, .unset] [])) rfl (hb hby at_38) (by decide) (by decide)
  obtain ⟨b7, g7⟩ : ∃ z, z = T6.heap.size := ⟨_, rfl⟩
  rw [← g7] at A7 D7 st7
  have hi7 := own_nlt A7.lt
  have sz7 := E7.1
  have F7_algorithm : Fld Z h7 b7 "com/example/wombat/wombat/rules/RateLimit" "algorithm" "Lcom/example/wombat/wombat/rules/Algorithm;" .null := D7 (Or.inr (wd 24 rfl)) (ty := (.object "com/example/wombat/wombat/rules/Algorithm")) (by decide)
  have F7_unit : Fld Z h7 b7 "com/example/wombat/wombat/rules/RateLimit" "unit" "Lcom/example/wombat/wombat/rules/Unit;" .null := D7 (Or.inr (wd 26 rfl)) (ty := (.object "com/example/wombat/wombat/rules/Unit")) (by decide)
  have F7_requestsPerUnit : Fld Z h7 b7 "com/example/wombat/wombat/rules/RateLimit" "requestsPerUnit" "J" (.long (0 : Int64)) := D7 (Or.inr (wd 28 rfl)) (ty := .long) (by decide)
  have F7_bucketSize : Fld Z h7 b7 "com/example/wombat/wombat/rules/RateLimit" "bucketSize" "J" (.long (0 : Int64)) := D7 (Or.inr (wd 30 rfl)) (ty := .long) (by decide)
  have F7_storeTimeout : Fld Z h7 b7 "com/example/wombat/wombat/rules/RateLimit" "storeTimeout" "Ljava/time/Duration;" .null := D7 (Or.inr (wd 32 rfl)) (ty := (.object "java/time/Duration")) (by decide)
  have F7_onStoreFailure : Fld Z h7 b7 "com/example/wombat/wombat/rules/RateLimit" "onStoreFailure" "Lcom/example/wombat/wombat/rules/OnStoreFailure;" .null := D7 (Or.inr (wd 34 rfl)) (ty := (.object "com/example/wombat/wombat/rules/OnStoreFailure")) (by decide)
  refine go_of (B := (T7.setTop (mkF m 41 #[.val (.int cnt), .val (.int fl), .val (.long r1), .second, .val (.long r2), .second, .val (.long r3), .second, .val (.int (1 : Int32)), .val (.ref b1), .val (.ref b4), .unset, .unset, .unset, .unset, .unset, .unset, .unset, .unset, .unset, .unset] [(.ref b7)]))) (st7) ?_
  refine go_of (B := (T7.setTop (mkF m 48 #[.val (.int cnt), .val (.int fl), .val (.long r1), .second, .val (.long r2), .second, .val (.long r3), .second, .val (.int (1 : Int32)), .val (.ref b1), .val (.ref b4), .unset, .unset, .unset, .unset, .unset, .unset, .unset, .unset, .unset, .unset] [(.long r3), (.long r3), .null, .null, (.ref b7), (.ref b7)]))) (fun _ kk => XS.dup X7.here hx rfl (hb hby at_41) rfl rfl (XS.aconstNull X7.here hx rfl (hb hby at_42) (XS.aconstNull X7.here hx rfl (hb hby at_43) (XS.lload X7.here hx rfl (hb hby at_44) rfl (XS.lload X7.here hx rfl (hb hby at_46) rfl kk))))) ?_
  have cf_8 := ((cf_5.keep K6 (allS (by first | omega | exact own_ne (by omega) | exact own_le (by omega)) all0)).ext E7)
  obtain ⟨_, _, ⟨T9, L9, k9, n9⟩, -, X9, ⟨Lc9, hQ9, l9, y9, z9⟩, st9⟩ := X7.specialBack hx (y := MN5) rfl hown (mvT hZ (wd 4 rfl)) (mvT hZ (wd 5 rfl)) (mvT hZ (wd 6 rfl)) (by decide) (backOf (W := 1) (rl4 l Z a0 hw [] b7 r3 r3 _ _ _ _ _ _ wT wA h7 n0 (by omega) cf_8 ST SA A7 F7_algorithm F7_unit F7_requestsPerUnit F7_bucketSize F7_storeTimeout F7_onStoreFailure (by first | omega | exact own_ne (by omega) | exact own_le (by omega))) hZ (wd 6 rfl) (wd 3 rfl) (by decide) (by decide)) (g := (mkF m 48 #[.val (.int cnt), .val (.int fl), .val (.long r1), .second, .val (.long r2), .second, .val (.long r3), .second, .val (.int (1 : Int32)), .val (.ref b1), .val (.ref b4), .unset, .unset, .unset, .unset, .unset, .unset, .unset, .unset, .unset, .unset] [(.long r3), (.long r3), .null, .null, (.ref b7), (.ref b7)])) rfl (by rw [hml]; rfl) (Steps.refl _) (a := b7) (argsL := [.null, .null, (.long r3), (.long r3)]) (rest := [(.ref b7)]) (lenOf pd__Lcom_example_wombat_wombat_rules_Algorithm_Lcom_example_wombat_wombat_rules_Unit_JJ_V rfl) rfl (Nat.le_of_eq rfl) (hb hby at_48) (fun _ _ => ⟨rfl, e7, (by decide : 3 + 0 ≤ _), (by decide : 18 + 0 ≤ _)⟩)
  dsimp only [Pt.U, Pt.locs, Pt.cells, Pt.slots] at X9 l9 y9 z9 st9 hQ9
  subst l9 y9 z9
  obtain ⟨rfl, N9q, K9, A9⟩ := hQ9
  have N9 := Fr.app N6 N9q
  have sz9 := K9.1
  refine go_tr (B := (T9.setTop (mkF m 51 #[.val (.int cnt), .val (.int fl), .val (.long r1), .second, .val (.long r2), .second, .val (.long r3), .second, .val (.int (1 : Int32)), .val (.ref b1), .val (.ref b4), .unset, .unset, .unset, .unset, .unset, .unset, .unset, .unset, .unset, .unset] [(.ref b7)]))) (st9) ?_
  refine go_of (B := (T9.setTop (mkF m 53 #[.val (.int cnt), .val (.int fl), .val (.long r1), .second, .val (.long r2), .second, .val (.long r3), .second, .val (.int (1 : Int32)), .val (.ref b1), .val (.ref b4), .val (.ref b7), .unset, .unset, .unset, .unset, .unset, .unset, .unset, .unset, .unset] []))) (fun _ kk => XS.astore X9.here hx rfl (hb hby at_51) rfl rfl rfl kk) ?_
  obtain ⟨T10, h10, X10, e10, E10, A10, D10, -, st10⟩ := newO X9 hx hZ hown (wd 35 rfl) (wd 36 rfl) (wd 37 rfl) rfl (g := (mkF m 53 #[.val (.int cnt), .val (.int fl), .val (.long r1), .second, .val (.long r2), .second, .val (.long r3), .second, .val (.int (1 : Int32)), .val (.ref b1), .val (.ref b4), .val (.ref b7), .unset, .unset, .unset, .unset, .unset, .unset, .unset, .unset, .unset] [])) rfl (hb hby at_53) (by decide) (by decide)
  obtain ⟨b10, g10⟩ : ∃ z, z = T9.heap.size := ⟨_, rfl⟩
  rw [← g10] at A10 D10 st10
  have hi10 := own_nlt A10.lt
  have sz10 := E10.1
  have F10_key : Fld Z h10 b10 "com/example/wombat/wombat/rules/Descriptor" "key" "Ljava/lang/String;" .null := D10 (Or.inr (wd 83 rfl)) (ty := (.object "java/lang/String")) (by decide)
  have F10_value : Fld Z h10 b10 "com/example/wombat/wombat/rules/Descriptor" "value" "Ljava/lang/String;" .null := D10 (Or.inr (wd 85 rfl)) (ty := (.object "java/lang/String")) (by decide)
  have F10_rateLimit : Fld Z h10 b10 "com/example/wombat/wombat/rules/Descriptor" "rateLimit" "Lcom/example/wombat/wombat/rules/RateLimit;" .null := D10 (Or.inr (wd 87 rfl)) (ty := (.object "com/example/wombat/wombat/rules/RateLimit")) (by decide)
  have F10_descriptors : Fld Z h10 b10 "com/example/wombat/wombat/rules/Descriptor" "descriptors" "Ljava/util/List;" .null := D10 (Or.inr (wd 89 rfl)) (ty := (.object "java/util/List")) (by decide)
  refine go_of (B := (T10.setTop (mkF m 56 #[.val (.int cnt), .val (.int fl), .val (.long r1), .second, .val (.long r2), .second, .val (.long r3), .second, .val (.int (1 : Int32)), .val (.ref b1), .val (.ref b4), .val (.ref b7), .unset, .unset, .unset, .unset, .unset, .unset, .unset, .unset, .unset] [(.ref b10)]))) (st10) ?_
  refine go_of (B := (T10.setTop (mkF m 57 #[.val (.int cnt), .val (.int fl), .val (.long r1), .second, .val (.long r2), .second, .val (.long r3), .second, .val (.int (1 : Int32)), .val (.ref b1), .val (.ref b4), .val (.ref b7), .unset, .unset, .unset, .unset, .unset, .unset, .unset, .unset, .unset] [(.ref b10), (.ref b10)]))) (fun _ kk => XS.dup X10.here hx rfl (hb hby at_56) rfl rfl kk) ?_
  obtain ⟨b11, T11, h11, k11, X11, e11, E11, hS, hk11, hZ, hown, st11⟩ := ldcS X10 hx hZ hown (wd 38 rfl) (own_wS hw) e10 hS (by first | omega | exact own_ne (by omega) | exact own_le (by omega)) (g := (mkF m 57 #[.val (.int cnt), .val (.int fl), .val (.long r1), .second, .val (.long r2), .second, .val (.long r3), .second, .val (.int (1 : Int32)), .val (.ref b1), .val (.ref b4), .val (.ref b7), .unset, .unset, .unset, .unset, .unset, .unset, .unset, .unset, .unset] [(.ref b10), (.ref b10)])) rfl (hb hby at_57) (n := 4) (by decide) (by decide) (by decide) (by decide)
  have sz11 := E11.1
  refine go_of (B := (T11.setTop (mkF m 59 #[.val (.int cnt), .val (.int fl), .val (.long r1), .second, .val (.long r2), .second, .val (.long r3), .second, .val (.int (1 : Int32)), .val (.ref b1), .val (.ref b4), .val (.ref b7), .unset, .unset, .unset, .unset, .unset, .unset, .unset, .unset, .unset] [(.ref b11), (.ref b10), (.ref b10)]))) (st11) ?_
  refine go_of (B := (T11.setTop (mkF m 77 #[.val (.int cnt), .val (.int fl), .val (.long r1), .second, .val (.long r2), .second, .val (.long r3), .second, .val (.int (1 : Int32)), .val (.ref b1), .val (.ref b4), .val (.ref b7), .unset, .unset, .unset, .unset, .unset, .unset, .unset, .unset, .unset] [(.ref b1), (.ref b11), (.ref b10), (.ref b10)]))) (fun _ kk => XS.iload X11.here hx rfl (hb hby at_59) rfl (XS.iconst X11.here hx rfl (hb hby at_61) (XS.icmpYes X11.here hx rfl (pc0 := 62) (pc' := 71) rfl (hb hby at_62) rfl (teq (by decide : (1 : Int32) = (1 : Int32))).1 (by decide) (by decide) (XS.aload X11.here hx rfl (hb hby at_71) rfl rfl (XS.goto X11.here hx rfl (pc0 := 73) (pc' := 77) rfl (hb hby at_73) (by decide) (by decide) kk))))) ?_
  have cf_12 := (((cf_8.keep K9 (allS (by first | omega | exact own_ne (by omega) | exact own_le (by omega)) all0)).ext E10).ext E11)
  have cf_13 := (A10.ext E11)
  have cf_14 := (F10_key.ext E11)
  have cf_15 := (F10_value.ext E11)
  have cf_16 := (F10_rateLimit.ext E11)
  have cf_17 := (F10_descriptors.ext E11)
  obtain ⟨_, _, ⟨T18, L18, k18, n18⟩, -, X18', hS18', gr18, ⟨Lc18, hQ18, l18, y18, z18⟩, st18⟩ := X11.specialBackS hx (y := MN0) rfl hown (mvT hZ (wd 46 rfl)) (mvT hZ (wd 47 rfl)) (mvT hZ (wd 48 rfl)) (by decide) (backOfS (W := 1) (ds2r l Z a0 hw [] b10 b11 b1 wE _ _ _ _ h11 n0 (by omega) cf_12 SE EE FE cf_13 cf_14 cf_15 cf_16 cf_17 (by first | omega | exact own_ne (by omega) | exact own_le (by omega))) hZ (wd 48 rfl) (wd 37 rfl) (by decide) (by decide)) (g := (mkF m 77 #[.val (.int cnt), .val (.int fl), .val (.long r1), .second, .val (.long r2), .second, .val (.long r3), .second, .val (.int (1 : Int32)), .val (.ref b1), .val (.ref b4), .val (.ref b7), .unset, .unset, .unset, .unset, .unset, .unset, .unset, .unset, .unset] [(.ref b1), (.ref b11), (.ref b10), (.ref b10)])) rfl (by rw [hml]; rfl) (Steps.refl _) (a := b10) (argsL := [(.ref b11), (.ref b1)]) (rest := [(.ref b10)]) (lenOf pd__Ljava_lang_String_Lcom_example_wombat_wombat_rules_RateLimit__V rfl) rfl (Nat.le_of_eq rfl) (hb hby at_77) (fun _ _ => ⟨rfl, e11, (by decide : 6 + 2 ≤ _), (by decide : 30 + 16 ≤ _)⟩)
  dsimp only [Pt.U, Pt.locs, Pt.cells, Pt.slots] at X18' hS18' gr18 l18 y18 z18 st18 hQ18
  subst l18 y18 z18
  have X18 : Stand _ _ _ _ (s.setVm T18.vm) _ _ _ _ _ T18 _ _ _ := X18'
  have hS : s.Since T18.vm T18.heap.size := foldS hS (by rw [e11]; omega) hS18' gr18
  have hZ : Z.Warmed39 (s.setVm T18.vm).vm := State.Warmed39.trans (t := s.setVm T11.vm) hZ hS18'.1
  have hown : (s.setVm T18.vm).vm.findClass "com/example/wombat/wombat/rules/LimitRateLimitPinLaw" = some m.cls := by rw [show (s.setVm T18.vm).vm = T18.vm from rfl, hS18'.1.alike.findClass]; exact hown
  obtain ⟨rfl, N18q, K18, A18⟩ := hQ18
  have N18 := Fr.app N9 N18q
  have sz18 := K18.1
  refine go_tr (B := (T18.setTop (mkF m 80 #[.val (.int cnt), .val (.int fl), .val (.long r1), .second, .val (.long r2), .second, .val (.long r3), .second, .val (.int (1 : Int32)), .val (.ref b1), .val (.ref b4), .val (.ref b7), .unset, .unset, .unset, .unset, .unset, .unset, .unset, .unset, .unset] [(.ref b10)]))) (st18) ?_
  refine go_of (B := (T18.setTop (mkF m 82 #[.val (.int cnt), .val (.int fl), .val (.long r1), .second, .val (.long r2), .second, .val (.long r3), .second, .val (.int (1 : Int32)), .val (.ref b1), .val (.ref b4), .val (.ref b7), .val (.ref b10), .unset, .unset, .unset, .unset, .unset, .unset, .unset, .unset] []))) (fun _ kk => XS.astore X18.here hx rfl (hb hby at_80) rfl rfl rfl kk) ?_
  obtain ⟨T19, h19, X19, e19, E19, A19, D19, -, st19⟩ := newO X18 hx hZ hown (wd 35 rfl) (wd 36 rfl) (wd 37 rfl) rfl (g := (mkF m 82 #[.val (.int cnt), .val (.int fl), .val (.long r1), .second, .val (.long r2), .second, .val (.long r3), .second, .val (.int (1 : Int32)), .val (.ref b1), .val (.ref b4), .val (.ref b7), .val (.ref b10), .unset, .unset, .unset, .unset, .unset, .unset, .unset, .unset] [])) rfl (hb hby at_82) (by decide) (by decide)
  obtain ⟨b19, g19⟩ : ∃ z, z = T18.heap.size := ⟨_, rfl⟩
  rw [← g19] at A19 D19 st19
  have hi19 := own_nlt A19.lt
  have sz19 := E19.1
  have F19_key : Fld Z h19 b19 "com/example/wombat/wombat/rules/Descriptor" "key" "Ljava/lang/String;" .null := D19 (Or.inr (wd 83 rfl)) (ty := (.object "java/lang/String")) (by decide)
  have F19_value : Fld Z h19 b19 "com/example/wombat/wombat/rules/Descriptor" "value" "Ljava/lang/String;" .null := D19 (Or.inr (wd 85 rfl)) (ty := (.object "java/lang/String")) (by decide)
  have F19_rateLimit : Fld Z h19 b19 "com/example/wombat/wombat/rules/Descriptor" "rateLimit" "Lcom/example/wombat/wombat/rules/RateLimit;" .null := D19 (Or.inr (wd 87 rfl)) (ty := (.object "com/example/wombat/wombat/rules/RateLimit")) (by decide)
  have F19_descriptors : Fld Z h19 b19 "com/example/wombat/wombat/rules/Descriptor" "descriptors" "Ljava/util/List;" .null := D19 (Or.inr (wd 89 rfl)) (ty := (.object "java/util/List")) (by decide)
  refine go_of (B := (T19.setTop (mkF m 85 #[.val (.int cnt), .val (.int fl), .val (.long r1), .second, .val (.long r2), .second, .val (.long r3), .second, .val (.int (1 : Int32)), .val (.ref b1), .val (.ref b4), .val (.ref b7), .val (.ref b10), .unset, .unset, .unset, .unset, .unset, .unset, .unset, .unset] [(.ref b19)]))) (st19) ?_
  refine go_of (B := (T19.setTop (mkF m 86 #[.val (.int cnt), .val (.int fl), .val (.long r1), .second, .val (.long r2), .second, .val (.long r3), .second, .val (.int (1 : Int32)), .val (.ref b1), .val (.ref b4), .val (.ref b7), .val (.ref b10), .unset, .unset, .unset, .unset, .unset, .unset, .unset, .unset] [(.ref b19), (.ref b19)]))) (fun _ kk => XS.dup X19.here hx rfl (hb hby at_85) rfl rfl kk) ?_
  obtain ⟨b20, T20, h20, k20, X20, e20, E20, hS, hk20, hZ, hown, st20⟩ := ldcS X19 hx hZ hown (wd 90 rfl) (own_wS hw) e19 hS (by first | omega | exact own_ne (by omega) | exact own_le (by omega)) (g := (mkF m 86 #[.val (.int cnt), .val (.int fl), .val (.long r1), .second, .val (.long r2), .second, .val (.long r3), .second, .val (.int (1 : Int32)), .val (.ref b1), .val (.ref b4), .val (.ref b7), .val (.ref b10), .unset, .unset, .unset, .unset, .unset, .unset, .unset, .unset] [(.ref b19), (.ref b19)])) rfl (hb hby at_86) (n := 4) (by decide) (by decide) (by decide) (by decide)
  have sz20 := E20.1
  refine go_of (B := (T20.setTop (mkF m 88 #[.val (.int cnt), .val (.int fl), .val (.long r1), .second, .val (.long r2), .second, .val (.long r3), .second, .val (.int (1 : Int32)), .val (.ref b1), .val (.ref b4), .val (.ref b7), .val (.ref b10), .unset, .unset, .unset, .unset, .unset, .unset, .unset, .unset] [(.ref b20), (.ref b19), (.ref b19)]))) (st20) ?_
  refine go_of (B := (T20.setTop (mkF m 97 #[.val (.int cnt), .val (.int fl), .val (.long r1), .second, .val (.long r2), .second, .val (.long r3), .second, .val (.int (1 : Int32)), .val (.ref b1), .val (.ref b4), .val (.ref b7), .val (.ref b10), .unset, .unset, .unset, .unset, .unset, .unset, .unset, .unset] [(.int (fl &&& (2 : Int32))), (.ref b20), (.ref b19), (.ref b19)]))) (fun _ kk => XS.iload X20.here hx rfl (hb hby at_88) rfl (XS.iconst X20.here hx rfl (hb hby at_90) (XS.icmpNo X20.here hx rfl (hb hby at_91) rfl (feq (by decide : ¬ ((1 : Int32) = (2 : Int32)))).1 (XS.iloadN X20.here hx rfl (hb hby at_94) rfl (XS.iconst X20.here hx rfl (hb hby at_95) (XS.iand X20.here hx rfl (hb hby at_96) rfl kk)))))) ?_
  by_cases hcc21 : (fl &&& (2 : Int32)) = (0 : Int32)
  · refine go_of (B := (T20.setTop (mkF m 106 #[.val (.int cnt), .val (.int fl), .val (.long r1), .second, .val (.long r2), .second, .val (.long r3), .second, .val (.int (1 : Int32)), .val (.ref b1), .val (.ref b4), .val (.ref b7), .val (.ref b10), .unset, .unset, .unset, .unset, .unset, .unset, .unset, .unset] [.null, (.ref b20), (.ref b19), (.ref b19)]))) (fun _ kk => XS.ifYes X20.here hx rfl (pc0 := 97) (pc' := 105) rfl (hb hby at_97) rfl ((if0 _ _).trans (teq hcc21).1) (by decide) (by decide) (XS.aconstNull X20.here hx rfl (hb hby at_105) kk)) ?_
    have cf_22 := (((cf_12.keep K18 (allS (by first | omega | exact own_ne (by omega) | exact own_le (by omega)) all0)).ext E19).ext E20)
    have cf_23 := (A19.ext E20)
    have cf_24 := (F19_key.ext E20)
    have cf_25 := (F19_value.ext E20)
    have cf_26 := (F19_rateLimit.ext E20)
    have cf_27 := (F19_descriptors.ext E20)
    obtain ⟨_, _, ⟨T28, L28, k28, n28⟩, -, X28', hS28', gr28, ⟨Lc28, hQ28, l28, y28, z28⟩, st28⟩ := X20.specialBackS hx (y := MN0) rfl hown (mvT hZ (wd 46 rfl)) (mvT hZ (wd 47 rfl)) (mvT hZ (wd 48 rfl)) (by decide) (backOfS (W := 1) (ds2n l Z a0 hw [] b19 b20 wE _ _ _ _ h20 n0 (by omega) cf_22 SE EE FE cf_23 cf_24 cf_25 cf_26 cf_27 (by first | omega | exact own_ne (by omega) | exact own_le (by omega))) hZ (wd 48 rfl) (wd 37 rfl) (by decide) (by decide)) (g := (mkF m 106 #[.val (.int cnt), .val (.int fl), .val (.long r1), .second, .val (.long r2), .second, .val (.long r3), .second, .val (.int (1 : Int32)), .val (.ref b1), .val (.ref b4), .val (.ref b7), .val (.ref b10), .unset, .unset, .unset, .unset, .unset, .unset, .unset, .unset] [.null, (.ref b20), (.ref b19), (.ref b19)])) rfl (by rw [hml]; rfl) (Steps.refl _) (a := b19) (argsL := [(.ref b20), .null]) (rest := [(.ref b19)]) (lenOf pd__Ljava_lang_String_Lcom_example_wombat_wombat_rules_RateLimit__V rfl) rfl (Nat.le_of_eq rfl) (hb hby at_106) (fun _ _ => ⟨rfl, e20, (by decide : 11 + 2 ≤ _), (by decide : 58 + 16 ≤ _)⟩)
    dsimp only [Pt.U, Pt.locs, Pt.cells, Pt.slots] at X28' hS28' gr28 l28 y28 z28 st28 hQ28
    subst l28 y28 z28
    have X28 : Stand _ _ _ _ (s.setVm T28.vm) _ _ _ _ _ T28 _ _ _ := X28'
    have hS : s.Since T28.vm T28.heap.size := foldS hS (by rw [e20]; omega) hS28' gr28
    have hZ : Z.Warmed39 (s.setVm T28.vm).vm := State.Warmed39.trans (t := s.setVm T20.vm) hZ hS28'.1
    have hown : (s.setVm T28.vm).vm.findClass "com/example/wombat/wombat/rules/LimitRateLimitPinLaw" = some m.cls := by rw [show (s.setVm T28.vm).vm = T28.vm from rfl, hS28'.1.alike.findClass]; exact hown
    obtain ⟨rfl, N28q, K28, A28⟩ := hQ28
    have N28 := Fr.app N18 N28q
    have sz28 := K28.1
    refine go_tr (B := (T28.setTop (mkF m 109 #[.val (.int cnt), .val (.int fl), .val (.long r1), .second, .val (.long r2), .second, .val (.long r3), .second, .val (.int (1 : Int32)), .val (.ref b1), .val (.ref b4), .val (.ref b7), .val (.ref b10), .unset, .unset, .unset, .unset, .unset, .unset, .unset, .unset] [(.ref b19)]))) (st28) ?_
    refine go_of (B := (T28.setTop (mkF m 111 #[.val (.int cnt), .val (.int fl), .val (.long r1), .second, .val (.long r2), .second, .val (.long r3), .second, .val (.int (1 : Int32)), .val (.ref b1), .val (.ref b4), .val (.ref b7), .val (.ref b10), .val (.ref b19), .unset, .unset, .unset, .unset, .unset, .unset, .unset] []))) (fun _ kk => XS.astore X28.here hx rfl (hb hby at_109) rfl rfl rfl kk) ?_
    obtain ⟨T29, h29, X29, e29, E29, A29, D29, -, st29⟩ := newO X28 hx hZ hown (wd 35 rfl) (wd 36 rfl) (wd 37 rfl) rfl (g := (mkF m 111 #[.val (.int cnt), .val (.int fl), .val (.long r1), .second, .val (.long r2), .second, .val (.long r3), .second, .val (.int (1 : Int32)), .val (.ref b1), .val (.ref b4), .val (.ref b7), .val (.ref b10), .val (.ref b19), .unset, .unset, .unset, .unset, .unset, .unset, .unset] [])) rfl (hb hby at_111) (by decide) (by decide)
    obtain ⟨b29, g29⟩ : ∃ z, z = T28.heap.size := ⟨_, rfl⟩
    rw [← g29] at A29 D29 st29
    have hi29 := own_nlt A29.lt
    have sz29 := E29.1
    have F29_key : Fld Z h29 b29 "com/example/wombat/wombat/rules/Descriptor" "key" "Ljava/lang/String;" .null := D29 (Or.inr (wd 83 rfl)) (ty := (.object "java/lang/String")) (by decide)
    have F29_value : Fld Z h29 b29 "com/example/wombat/wombat/rules/Descriptor" "value" "Ljava/lang/String;" .null := D29 (Or.inr (wd 85 rfl)) (ty := (.object "java/lang/String")) (by decide)
    have F29_rateLimit : Fld Z h29 b29 "com/example/wombat/wombat/rules/Descriptor" "rateLimit" "Lcom/example/wombat/wombat/rules/RateLimit;" .null := D29 (Or.inr (wd 87 rfl)) (ty := (.object "com/example/wombat/wombat/rules/RateLimit")) (by decide)
    have F29_descriptors : Fld Z h29 b29 "com/example/wombat/wombat/rules/Descriptor" "descriptors" "Ljava/util/List;" .null := D29 (Or.inr (wd 89 rfl)) (ty := (.object "java/util/List")) (by decide)
    refine go_of (B := (T29.setTop (mkF m 114 #[.val (.int cnt), .val (.int fl), .val (.long r1), .second, .val (.long r2), .second, .val (.long r3), .second, .val (.int (1 : Int32)), .val (.ref b1), .val (.ref b4), .val (.ref b7), .val (.ref b10), .val (.ref b19), .unset, .unset, .unset, .unset, .unset, .unset, .unset] [(.ref b29)]))) (st29) ?_
    refine go_of (B := (T29.setTop (mkF m 115 #[.val (.int cnt), .val (.int fl), .val (.long r1), .second, .val (.long r2), .second, .val (.long r3), .second, .val (.int (1 : Int32)), .val (.ref b1), .val (.ref b4), .val (.ref b7), .val (.ref b10), .val (.ref b19), .unset, .unset, .unset, .unset, .unset, .unset, .unset] [(.ref b29), (.ref b29)]))) (fun _ kk => XS.dup X29.here hx rfl (hb hby at_114) rfl rfl kk) ?_
    obtain ⟨b30, T30, h30, k30, X30, e30, E30, hS, hk30, hZ, hown, st30⟩ := ldcS X29 hx hZ hown (wd 91 rfl) (own_wS hw) e29 hS (by first | omega | exact own_ne (by omega) | exact own_le (by omega)) (g := (mkF m 115 #[.val (.int cnt), .val (.int fl), .val (.long r1), .second, .val (.long r2), .second, .val (.long r3), .second, .val (.int (1 : Int32)), .val (.ref b1), .val (.ref b4), .val (.ref b7), .val (.ref b10), .val (.ref b19), .unset, .unset, .unset, .unset, .unset, .unset, .unset] [(.ref b29), (.ref b29)])) rfl (hb hby at_115) (n := 4) (by decide) (by decide) (by decide) (by decide)
    have sz30 := E30.1
    refine go_of (B := (T30.setTop (mkF m 117 #[.val (.int cnt), .val (.int fl), .val (.long r1), .second, .val (.long r2), .second, .val (.long r3), .second, .val (.int (1 : Int32)), .val (.ref b1), .val (.ref b4), .val (.ref b7), .val (.ref b10), .val (.ref b19), .unset, .unset, .unset, .unset, .unset, .unset, .unset] [(.ref b30), (.ref b29), (.ref b29)]))) (st30) ?_
    refine go_of (B := (T30.setTop (mkF m 119 #[.val (.int cnt), .val (.int fl), .val (.long r1), .second, .val (.long r2), .second, .val (.long r3), .second, .val (.int (1 : Int32)), .val (.ref b1), .val (.ref b4), .val (.ref b7), .val (.ref b10), .val (.ref b19), .unset, .unset, .unset, .unset, .unset, .unset, .unset] [(.ref b7), (.ref b30), (.ref b29), (.ref b29)]))) (fun _ kk => XS.aload X30.here hx rfl (hb hby at_117) rfl rfl kk) ?_
    have cf_31 := (((cf_22.keep K28 (allS (by first | omega | exact own_ne (by omega) | exact own_le (by omega)) all0)).ext E29).ext E30)
    have cf_32 := (A29.ext E30)
    have cf_33 := (F29_key.ext E30)
    have cf_34 := (F29_value.ext E30)
    have cf_35 := (F29_rateLimit.ext E30)
    have cf_36 := (F29_descriptors.ext E30)
    obtain ⟨_, _, ⟨T37, L37, k37, n37⟩, -, X37', hS37', gr37, ⟨Lc37, hQ37, l37, y37, z37⟩, st37⟩ := X30.specialBackS hx (y := MN0) rfl hown (mvT hZ (wd 46 rfl)) (mvT hZ (wd 47 rfl)) (mvT hZ (wd 48 rfl)) (by decide) (backOfS (W := 1) (ds2r l Z a0 hw [] b29 b30 b7 wE _ _ _ _ h30 n0 (by omega) cf_31 SE EE FE cf_32 cf_33 cf_34 cf_35 cf_36 (by first | omega | exact own_ne (by omega) | exact own_le (by omega))) hZ (wd 48 rfl) (wd 37 rfl) (by decide) (by decide)) (g := (mkF m 119 #[.val (.int cnt), .val (.int fl), .val (.long r1), .second, .val (.long r2), .second, .val (.long r3), .second, .val (.int (1 : Int32)), .val (.ref b1), .val (.ref b4), .val (.ref b7), .val (.ref b10), .val (.ref b19), .unset, .unset, .unset, .unset, .unset, .unset, .unset] [(.ref b7), (.ref b30), (.ref b29), (.ref b29)])) rfl (by rw [hml]; rfl) (Steps.refl _) (a := b29) (argsL := [(.ref b30), (.ref b7)]) (rest := [(.ref b29)]) (lenOf pd__Ljava_lang_String_Lcom_example_wombat_wombat_rules_RateLimit__V rfl) rfl (Nat.le_of_eq rfl) (hb hby at_119) (fun _ _ => ⟨rfl, e30, (by decide : 16 + 2 ≤ _), (by decide : 86 + 16 ≤ _)⟩)
    dsimp only [Pt.U, Pt.locs, Pt.cells, Pt.slots] at X37' hS37' gr37 l37 y37 z37 st37 hQ37
    subst l37 y37 z37
    have X37 : Stand _ _ _ _ (s.setVm T37.vm) _ _ _ _ _ T37 _ _ _ := X37'
    have hS : s.Since T37.vm T37.heap.size := foldS hS (by rw [e30]; omega) hS37' gr37
    have hZ : Z.Warmed39 (s.setVm T37.vm).vm := State.Warmed39.trans (t := s.setVm T30.vm) hZ hS37'.1
    have hown : (s.setVm T37.vm).vm.findClass "com/example/wombat/wombat/rules/LimitRateLimitPinLaw" = some m.cls := by rw [show (s.setVm T37.vm).vm = T37.vm from rfl, hS37'.1.alike.findClass]; exact hown
    obtain ⟨rfl, N37q, K37, A37⟩ := hQ37
    have N37 := Fr.app N28 N37q
    have sz37 := K37.1
    refine go_tr (B := (T37.setTop (mkF m 122 #[.val (.int cnt), .val (.int fl), .val (.long r1), .second, .val (.long r2), .second, .val (.long r3), .second, .val (.int (1 : Int32)), .val (.ref b1), .val (.ref b4), .val (.ref b7), .val (.ref b10), .val (.ref b19), .unset, .unset, .unset, .unset, .unset, .unset, .unset] [(.ref b29)]))) (st37) ?_
    refine go_of (B := (T37.setTop (mkF m 124 #[.val (.int cnt), .val (.int fl), .val (.long r1), .second, .val (.long r2), .second, .val (.long r3), .second, .val (.int (1 : Int32)), .val (.ref b1), .val (.ref b4), .val (.ref b7), .val (.ref b10), .val (.ref b19), .val (.ref b29), .unset, .unset, .unset, .unset, .unset, .unset] []))) (fun _ kk => XS.astore X37.here hx rfl (hb hby at_122) rfl rfl rfl kk) ?_
    obtain ⟨T38, h38, X38, e38, E38, A38, D38, -, st38⟩ := newO X37 hx hZ hown (wd 92 rfl) (wd 93 rfl) (wd 94 rfl) rfl (g := (mkF m 124 #[.val (.int cnt), .val (.int fl), .val (.long r1), .second, .val (.long r2), .second, .val (.long r3), .second, .val (.int (1 : Int32)), .val (.ref b1), .val (.ref b4), .val (.ref b7), .val (.ref b10), .val (.ref b19), .val (.ref b29), .unset, .unset, .unset, .unset, .unset, .unset] [])) rfl (hb hby at_124) (by decide) (by decide)
    obtain ⟨b38, g38⟩ : ∃ z, z = T37.heap.size := ⟨_, rfl⟩
    rw [← g38] at A38 D38 st38
    have hi38 := own_nlt A38.lt
    have sz38 := E38.1
    have F38_modCount : Fld Z h38 b38 "java/util/AbstractList" "modCount" "I" (.int (0 : Int32)) := D38 (Or.inl (wd 112 rfl)) (ty := .int) (by decide)
    have F38_elementData : Fld Z h38 b38 "java/util/ArrayList" "elementData" "[Ljava/lang/Object;" .null := D38 (Or.inl (wd 115 rfl)) (ty := (.array (.object "java/lang/Object"))) (by decide)
    have F38_size : Fld Z h38 b38 "java/util/ArrayList" "size" "I" (.int (0 : Int32)) := D38 (Or.inl (wd 124 rfl)) (ty := .int) (by decide)
    refine go_of (B := (T38.setTop (mkF m 127 #[.val (.int cnt), .val (.int fl), .val (.long r1), .second, .val (.long r2), .second, .val (.long r3), .second, .val (.int (1 : Int32)), .val (.ref b1), .val (.ref b4), .val (.ref b7), .val (.ref b10), .val (.ref b19), .val (.ref b29), .unset, .unset, .unset, .unset, .unset, .unset] [(.ref b38)]))) (st38) ?_
    refine go_of (B := (T38.setTop (mkF m 128 #[.val (.int cnt), .val (.int fl), .val (.long r1), .second, .val (.long r2), .second, .val (.long r3), .second, .val (.int (1 : Int32)), .val (.ref b1), .val (.ref b4), .val (.ref b7), .val (.ref b10), .val (.ref b19), .val (.ref b29), .unset, .unset, .unset, .unset, .unset, .unset] [(.ref b38), (.ref b38)]))) (fun _ kk => XS.dup X38.here hx rfl (hb hby at_127) rfl rfl kk) ?_
    have cf_39 := ((cf_31.keep K37 (allS (by first | omega | exact own_ne (by omega) | exact own_le (by omega)) all0)).ext E38)
    obtain ⟨_, _, ⟨T40, L40, k40, n40⟩, -, X40, ⟨Lc40, hQ40, l40, y40, z40⟩, st40⟩ := X38.specialBack hx (y := MN10) rfl hown (mvT hZ (wd 95 rfl)) (mvT hZ (wd 96 rfl)) (mvT hZ (wd 97 rfl)) (by decide) (backOf (W := 1) (rm11 l Z a0 hw [] b38 _ _ wD h38 n0 (by omega) A38 F38_modCount F38_elementData F38_size (by first | omega | exact own_ne (by omega) | exact own_le (by omega)) cf_39 SD) hZ (wd 97 rfl) (wd 94 rfl) (by decide) (by decide)) (g := (mkF m 128 #[.val (.int cnt), .val (.int fl), .val (.long r1), .second, .val (.long r2), .second, .val (.long r3), .second, .val (.int (1 : Int32)), .val (.ref b1), .val (.ref b4), .val (.ref b7), .val (.ref b10), .val (.ref b19), .val (.ref b29), .unset, .unset, .unset, .unset, .unset, .unset] [(.ref b38), (.ref b38)])) rfl (by rw [hml]; rfl) (Steps.refl _) (a := b38) (argsL := []) (rest := [(.ref b38)]) (lenOf pd___V rfl) rfl (Nat.le_of_eq rfl) (hb hby at_128) (fun _ _ => ⟨rfl, e38, (by decide : 19 + 0 ≤ _), (by decide : 105 + 0 ≤ _)⟩)
    dsimp only [Pt.U, Pt.locs, Pt.cells, Pt.slots] at X40 l40 y40 z40 st40 hQ40
    subst l40 y40 z40
    obtain ⟨rfl, N40q, K40, A40⟩ := hQ40
    have N40 := Fr.app N37 N40q
    have sz40 := K40.1
    refine go_tr (B := (T40.setTop (mkF m 131 #[.val (.int cnt), .val (.int fl), .val (.long r1), .second, .val (.long r2), .second, .val (.long r3), .second, .val (.int (1 : Int32)), .val (.ref b1), .val (.ref b4), .val (.ref b7), .val (.ref b10), .val (.ref b19), .val (.ref b29), .unset, .unset, .unset, .unset, .unset, .unset] [(.ref b38)]))) (st40) ?_
    refine go_of (B := (T40.setTop (mkF m 137 #[.val (.int cnt), .val (.int fl), .val (.long r1), .second, .val (.long r2), .second, .val (.long r3), .second, .val (.int (1 : Int32)), .val (.ref b1), .val (.ref b4), .val (.ref b7), .val (.ref b10), .val (.ref b19), .val (.ref b29), .val (.ref b38), .unset, .unset, .unset, .unset, .unset] [(.ref b10), (.ref b38)]))) (fun _ kk => XS.astore X40.here hx rfl (hb hby at_131) rfl rfl rfl (XS.aload X40.here hx rfl (hb hby at_133) rfl rfl (XS.aload X40.here hx rfl (hb hby at_135) rfl rfl kk))) ?_
    have cf_41 := (cf_39.keep K40 (allS (by first | omega | exact own_ne (by omega) | exact own_le (by omega)) all0))
    have cf_42 := ((((((((A18.1.ext E19).ext E20).keep K28).ext E29).ext E30).keep K37).ext E38).keep K40)
    obtain ⟨cq43, kq43, q43a, q43b, q43c⟩ := isOf hZ rfl A40.1
    obtain ⟨_, _, ⟨T43, L43, k43, n43⟩, -, X43, ⟨Lc43, hQ43, l43, y43, z43⟩, st43⟩ := X40.virtualBack hx (y := MN11) (z := MN11) hown (mvT hZ (wd 116 rfl)) (mvT hZ (wd 117 rfl)) (notFace_of_selects (args := #[]) (mvT hZ (wd 119 rfl))) (mvT hZ (wd 119 rfl)) (mvT hZ (wd 118 rfl)) (by decide) (backOf (W := 0) (add0 l Z a0 hw [] b38 b10 (0 : Int32) wD kD T40.heap n0 (by omega) ⟨A40.1, A40.2.1, A40.2.2.1, A40.2.2.2⟩ (by first | omega | exact own_ne (by omega) | exact own_le (by omega)) cf_41 SD (VD.ext cf_41.2) D0 (Ins.of_exa cf_42 (wd 146 rfl))) hZ (wd 120 rfl) (wd 94 rfl) (by decide) (by decide)) q43a q43c (g := (mkF m 137 #[.val (.int cnt), .val (.int fl), .val (.long r1), .second, .val (.long r2), .second, .val (.long r3), .second, .val (.int (1 : Int32)), .val (.ref b1), .val (.ref b4), .val (.ref b7), .val (.ref b10), .val (.ref b19), .val (.ref b29), .val (.ref b38), .unset, .unset, .unset, .unset, .unset] [(.ref b10), (.ref b38)])) rfl (by rw [hml]; rfl) (Steps.refl _) (argsL := [(.ref b10)]) (rest := []) (lenOf pd__Ljava_lang_Object__Z rfl) rfl (Nat.le_of_eq rfl) (hb hby at_137) (fun _ _ => ⟨rfl, rfl, (by decide : 19 + 1 ≤ _), (by decide : 105 + 10 ≤ _)⟩)
    dsimp only [Pt.U, Pt.locs, Pt.cells, Pt.slots] at X43 l43 y43 z43 st43 hQ43
    subst l43 y43 z43
    obtain ⟨b43, k43, rfl, N43q, lo43, K43, A43, V43, O43, XE43⟩ := hQ43
    have lo43 := own_nle lo43
    have N43 := Fr.app N40 N43q
    have hi43 := own_nlt (V43.lt)
    have sz43 := K43.1
    refine go_tr (B := (T43.setTop (mkF m 140 #[.val (.int cnt), .val (.int fl), .val (.long r1), .second, .val (.long r2), .second, .val (.long r3), .second, .val (.int (1 : Int32)), .val (.ref b1), .val (.ref b4), .val (.ref b7), .val (.ref b10), .val (.ref b19), .val (.ref b29), .val (.ref b38), .unset, .unset, .unset, .unset, .unset] [(.int (1 : Int32))]))) (st43) ?_
    refine go_of (B := (T43.setTop (mkF m 158 #[.val (.int cnt), .val (.int fl), .val (.long r1), .second, .val (.long r2), .second, .val (.long r3), .second, .val (.int (1 : Int32)), .val (.ref b1), .val (.ref b4), .val (.ref b7), .val (.ref b10), .val (.ref b19), .val (.ref b29), .val (.ref b38), .unset, .unset, .unset, .unset, .unset] [(.int (3 : Int32)), (.int (1 : Int32))]))) (fun _ kk => XS.pop X43.here hx rfl (hb hby at_140) rfl rfl (XS.iload X43.here hx rfl (hb hby at_141) rfl (XS.iconst X43.here hx rfl (hb hby at_143) (XS.icmpYes X43.here hx rfl (pc0 := 144) (pc' := 155) rfl (hb hby at_144) rfl (tlt (by decide : (1 : Int32) < (2 : Int32))).1 (by decide) (by decide) (XS.iload X43.here hx rfl (hb hby at_155) rfl (XS.iconst X43.here hx rfl (hb hby at_157) kk)))))) ?_
    refine go_of (B := (T43.setTop (mkF m 193 #[.val (.int cnt), .val (.int fl), .val (.long r1), .second, .val (.long r2), .second, .val (.long r3), .second, .val (.int (1 : Int32)), .val (.ref b1), .val (.ref b4), .val (.ref b7), .val (.ref b10), .val (.ref b19), .val (.ref b29), .val (.ref b38), .unset, .unset, .unset, .unset, .unset] [(.ref b1)]))) (fun _ kk => XS.icmpYes X43.here hx rfl (pc0 := 158) (pc' := 169) rfl (hb hby at_158) rfl (tlt (by decide : (1 : Int32) < (3 : Int32))).1 (by decide) (by decide) (XS.iload X43.here hx rfl (hb hby at_169) rfl (XS.iconst X43.here hx rfl (hb hby at_171) (XS.icmpNo X43.here hx rfl (hb hby at_172) rfl (teq (by decide : (1 : Int32) = (1 : Int32))).2 (XS.aload X43.here hx rfl (hb hby at_175) rfl rfl (XS.goto X43.here hx rfl (pc0 := 177) (pc' := 193) rfl (hb hby at_177) (by decide) (by decide) kk)))))) ?_
    refine go_of (B := (T43.setTop (mkF m 218 #[.val (.int cnt), .val (.int fl), .val (.long r1), .second, .val (.long r2), .second, .val (.long r3), .second, .val (.int (1 : Int32)), .val (.ref b1), .val (.ref b4), .val (.ref b7), .val (.ref b10), .val (.ref b19), .val (.ref b29), .val (.ref b38), .val (.ref b1), .unset, .unset, .unset, .unset] [(.long r1)]))) (fun _ kk => XS.astore X43.here hx rfl (hb hby at_193) rfl rfl rfl (XS.iload X43.here hx rfl (hb hby at_195) rfl (XS.iconst X43.here hx rfl (hb hby at_197) (XS.icmpNo X43.here hx rfl (hb hby at_198) rfl (teq (by decide : (1 : Int32) = (1 : Int32))).2 (XS.lloadN X43.here hx rfl (hb hby at_201) rfl (XS.goto X43.here hx rfl (pc0 := 202) (pc' := 218) rfl (hb hby at_202) (by decide) (by decide) kk)))))) ?_
    refine go_of (B := (T43.setTop (mkF m 220 #[.val (.int cnt), .val (.int fl), .val (.long r1), .second, .val (.long r2), .second, .val (.long r3), .second, .val (.int (1 : Int32)), .val (.ref b1), .val (.ref b4), .val (.ref b7), .val (.ref b10), .val (.ref b19), .val (.ref b29), .val (.ref b38), .val (.ref b1), .val (.long r1), .second, .unset, .unset] []))) (fun _ kk => XS.lstore X43.here hx rfl (hb hby at_218) rfl rfl kk) ?_
    obtain ⟨T44, h44, X44, e44, E44, A44, D44, -, st44⟩ := newO X43 hx hZ hown (wd 147 rfl) (wd 148 rfl) (wd 149 rfl) rfl (g := (mkF m 220 #[.val (.int cnt), .val (.int fl), .val (.long r1), .second, .val (.long r2), .second, .val (.long r3), .second, .val (.int (1 : Int32)), .val (.ref b1), .val (.ref b4), .val (.ref b7), .val (.ref b10), .val (.ref b19), .val (.ref b29), .val (.ref b38), .val (.ref b1), .val (.long r1), .second, .unset, .unset] [])) rfl (hb hby at_220) (by decide) (by decide)
    obtain ⟨b44, g44⟩ : ∃ z, z = T43.heap.size := ⟨_, rfl⟩
    rw [← g44] at A44 D44 st44
    have hi44 := own_nlt A44.lt
    have sz44 := E44.1
    have F44_descriptors : Fld Z h44 b44 "com/example/wombat/wombat/rules/Limit" "descriptors" "Ljava/util/List;" .null := D44 (Or.inr (wd 261 rfl)) (ty := (.object "java/util/List")) (by decide)
    refine go_of (B := (T44.setTop (mkF m 223 #[.val (.int cnt), .val (.int fl), .val (.long r1), .second, .val (.long r2), .second, .val (.long r3), .second, .val (.int (1 : Int32)), .val (.ref b1), .val (.ref b4), .val (.ref b7), .val (.ref b10), .val (.ref b19), .val (.ref b29), .val (.ref b38), .val (.ref b1), .val (.long r1), .second, .unset, .unset] [(.ref b44)]))) (st44) ?_
    refine go_of (B := (T44.setTop (mkF m 226 #[.val (.int cnt), .val (.int fl), .val (.long r1), .second, .val (.long r2), .second, .val (.long r3), .second, .val (.int (1 : Int32)), .val (.ref b1), .val (.ref b4), .val (.ref b7), .val (.ref b10), .val (.ref b19), .val (.ref b29), .val (.ref b38), .val (.ref b1), .val (.long r1), .second, .unset, .unset] [(.ref b38), (.ref b44), (.ref b44)]))) (fun _ kk => XS.dup X44.here hx rfl (hb hby at_223) rfl rfl (XS.aload X44.here hx rfl (hb hby at_224) rfl rfl kk)) ?_
    have cf_45 := ((cf_42.keep K43).ext E44)
    have cf_46 := ((cf_41.keep K43 (allS (by first | omega | exact own_ne (by omega) | exact own_le (by omega)) all0)).ext E44)
    have cf_47 := (A43.1.ext E44)
    have cf_48 := (A43.2.1.ext E44)
    have cf_49 := (A43.2.2.1.ext E44)
    have cf_50 := (A43.2.2.2.ext E44)
    have cf_51 := (V43.ext E44)
    have cf_52 := (XE43.ext E44)
    have cf_53 := ((((((((((A18.2.ext E19).ext E20).keep K28 (ninS (by first | omega | exact own_ne (by omega) | exact own_le (by omega)) nin0)).ext E29).ext E30).keep K37 (ninS (by first | omega | exact own_ne (by omega) | exact own_le (by omega)) nin0)).ext E38).keep K40 (ninS (by first | omega | exact own_ne (by omega) | exact own_le (by omega)) nin0)).keep K43 (ninS (by first | omega | exact own_ne (by omega) | exact own_le (by omega)) nin0)).ext E44)
    obtain ⟨_, _, ⟨T54, L54, k54, n54⟩, -, X54, ⟨Lc54, hQ54, l54, y54, z54⟩, st54⟩ := X44.specialBack hx (y := MN3) rfl hown (mvT hZ (wd 150 rfl)) (mvT hZ (wd 151 rfl)) (mvT hZ (wd 152 rfl)) (by decide) (backOf (W := 1) (lim_1 l Z a0 hw [] b44 b38 _ b43 ((0 : Int32) + (1 : Int32)) k43 b10 mr wM b1 h44 n0 (by omega) cf_46 SM ⟨cf_47, cf_48, cf_49, cf_50⟩ M cf_51 (Ins.of_exa cf_45 (wd 146 rfl)) cf_52 A44 F44_descriptors (by first | omega | exact own_ne (by omega) | exact own_le (by omega)) cf_45 cf_53) hZ (wd 152 rfl) (wd 149 rfl) (by decide) (by decide)) (g := (mkF m 226 #[.val (.int cnt), .val (.int fl), .val (.long r1), .second, .val (.long r2), .second, .val (.long r3), .second, .val (.int (1 : Int32)), .val (.ref b1), .val (.ref b4), .val (.ref b7), .val (.ref b10), .val (.ref b19), .val (.ref b29), .val (.ref b38), .val (.ref b1), .val (.long r1), .second, .unset, .unset] [(.ref b38), (.ref b44), (.ref b44)])) rfl (by rw [hml]; rfl) (Steps.refl _) (a := b44) (argsL := [(.ref b38)]) (rest := [(.ref b44)]) (lenOf pd__Ljava_util_List__V rfl) rfl (Nat.le_of_eq rfl) (hb hby at_226) (fun _ _ => ⟨rfl, e44, (by decide : 21 + 2 ≤ _), (by decide : 116 + 3 ≤ _)⟩)
    dsimp only [Pt.U, Pt.locs, Pt.cells, Pt.slots] at X54 l54 y54 z54 st54 hQ54
    subst l54 y54 z54
    obtain ⟨t54, rfl, N54q, lo54, K54, E54, F54, A54⟩ := hQ54
    have lo54 := own_nle lo54
    have N54 := Fr.app N43 N54q
    have sz54 := K54.1
    refine go_tr (B := (T54.setTop (mkF m 229 #[.val (.int cnt), .val (.int fl), .val (.long r1), .second, .val (.long r2), .second, .val (.long r3), .second, .val (.int (1 : Int32)), .val (.ref b1), .val (.ref b4), .val (.ref b7), .val (.ref b10), .val (.ref b19), .val (.ref b29), .val (.ref b38), .val (.ref b1), .val (.long r1), .second, .unset, .unset] [(.ref b44)]))) (st54) ?_
    refine go_of (B := (T54.setTop (mkF m 233 #[.val (.int cnt), .val (.int fl), .val (.long r1), .second, .val (.long r2), .second, .val (.long r3), .second, .val (.int (1 : Int32)), .val (.ref b1), .val (.ref b4), .val (.ref b7), .val (.ref b10), .val (.ref b19), .val (.ref b29), .val (.ref b38), .val (.ref b1), .val (.long r1), .second, .val (.ref b44), .unset] [(.ref b44)]))) (fun _ kk => XS.astore X54.here hx rfl (hb hby at_229) rfl rfl rfl (XS.aload X54.here hx rfl (hb hby at_231) rfl rfl kk)) ?_
    have cf_55 := (cf_46.keep K54 (allS (by first | omega | exact own_ne (by omega) | exact own_le (by omega)) all0))
    have cf_56 := (cf_45.keep K54)
    have cf_57 := (cf_53.keep K54 (ninS (by first | omega | exact own_ne (by omega) | exact own_le (by omega)) nin0))
    obtain ⟨cq58, kq58, q58a, q58b, q58c⟩ := isOf hZ rfl E54
    obtain ⟨_, _, ⟨T58, L58, k58, n58⟩, -, X58, ⟨Lc58, hQ58, l58, y58, z58⟩, st58⟩ := X54.virtualBack hx (y := MN4) (z := MN4) hown (mvT hZ (wd 262 rfl)) (mvT hZ (wd 263 rfl)) (notFace_of_selects (args := #[]) (mvT hZ (wd 265 rfl))) (mvT hZ (wd 265 rfl)) (mvT hZ (wd 264 rfl)) (by decide) (backOf (W := 0) (lr_1 l Z a0 hw [] b44 t54 b10 wM b1 T54.heap n0 (by omega) cf_55 SM F54 A54 cf_56 cf_57) hZ (wd 266 rfl) (wd 149 rfl) (by decide) (by decide)) q58a q58c (g := (mkF m 233 #[.val (.int cnt), .val (.int fl), .val (.long r1), .second, .val (.long r2), .second, .val (.long r3), .second, .val (.int (1 : Int32)), .val (.ref b1), .val (.ref b4), .val (.ref b7), .val (.ref b10), .val (.ref b19), .val (.ref b29), .val (.ref b38), .val (.ref b1), .val (.long r1), .second, .val (.ref b44), .unset] [(.ref b44)])) rfl (by rw [hml]; rfl) (Steps.refl _) (argsL := []) (rest := []) (lenOf pd___Lcom_example_wombat_wombat_rules_RateLimit_ rfl) rfl (Nat.le_of_eq rfl) (hb hby at_233) (fun _ _ => ⟨rfl, rfl, (by decide : 23 + 0 ≤ _), (by decide : 119 + 0 ≤ _)⟩)
    dsimp only [Pt.U, Pt.locs, Pt.cells, Pt.slots] at X58 l58 y58 z58 st58 hQ58
    subst l58 y58 z58
    obtain ⟨rfl, N58q, e58⟩ := hQ58
    have N58 := Fr.app N54 N58q
    refine go_tr (B := (T58.setTop (mkF m 236 #[.val (.int cnt), .val (.int fl), .val (.long r1), .second, .val (.long r2), .second, .val (.long r3), .second, .val (.int (1 : Int32)), .val (.ref b1), .val (.ref b4), .val (.ref b7), .val (.ref b10), .val (.ref b19), .val (.ref b29), .val (.ref b38), .val (.ref b1), .val (.long r1), .second, .val (.ref b44), .unset] [(.ref b1)]))) (st58) ?_
    refine go_of (B := (T58.setTop (mkF m 247 #[.val (.int cnt), .val (.int fl), .val (.long r1), .second, .val (.long r2), .second, .val (.long r3), .second, .val (.int (1 : Int32)), .val (.ref b1), .val (.ref b4), .val (.ref b7), .val (.ref b10), .val (.ref b19), .val (.ref b29), .val (.ref b38), .val (.ref b1), .val (.long r1), .second, .val (.ref b44), .val (.ref b1)] [(.ref b1)]))) (fun _ kk => XS.astore X58.here hx rfl (hb hby at_236) rfl rfl rfl (XS.aload X58.here hx rfl (hb hby at_238) rfl rfl (XS.aload X58.here hx rfl (hb hby at_240) rfl rfl (Jvm.RoadKit.acmp (g := (mkF m 242 #[.val (.int cnt), .val (.int fl), .val (.long r1), .second, .val (.long r2), .second, .val (.long r3), .second, .val (.int (1 : Int32)), .val (.ref b1), .val (.ref b4), .val (.ref b7), .val (.ref b10), .val (.ref b19), .val (.ref b29), .val (.ref b38), .val (.ref b1), .val (.long r1), .second, .val (.ref b44), .val (.ref b1)] [(.ref b1), (.ref b1)])) X58 hx rfl rfl rfl (pc0 := 242) (pc' := 245) (same := true) rfl (hb hby at_242) rfl (decide_eq_true rfl) (by decide) (by decide) (XS.aload X58.here hx rfl (hb hby at_245) rfl rfl kk))))) ?_
    have cf_59 := ((((((((((((((((((A3.2.ext E4).keep K6 (ninS (by first | omega | exact own_ne (by omega) | exact own_le (by omega)) nin0)).ext E7).keep K9 (ninS (by first | omega | exact own_ne (by omega) | exact own_le (by omega)) nin0)).ext E10).ext E11).keep K18 (ninS (by first | omega | exact own_ne (by omega) | exact own_le (by omega)) nin0)).ext E19).ext E20).keep K28 (ninS (by first | omega | exact own_ne (by omega) | exact own_le (by omega)) nin0)).ext E29).ext E30).keep K37 (ninS (by first | omega | exact own_ne (by omega) | exact own_le (by omega)) nin0)).ext E38).keep K40 (ninS (by first | omega | exact own_ne (by omega) | exact own_le (by omega)) nin0)).keep K43 (ninS (by first | omega | exact own_ne (by omega) | exact own_le (by omega)) nin0)).ext E44).keep K54 (ninS (by first | omega | exact own_ne (by omega) | exact own_le (by omega)) nin0))
    have cf_61 := ((((((((((((((((((A3.1.ext E4).keep K6).ext E7).keep K9).ext E10).ext E11).keep K18).ext E19).ext E20).keep K28).ext E29).ext E30).keep K37).ext E38).keep K40).keep K43).ext E44).keep K54)
    obtain ⟨cq60, kq60, q60a, q60b, q60c⟩ := isOf hZ e58 cf_61
    obtain ⟨_, _, ⟨T60, L60, k60, n60⟩, -, X60, ⟨Lc60, hQ60, l60, y60, z60⟩, st60⟩ := X58.virtualBack hx (y := MN6) (z := MN6) hown (mvT hZ (wd 267 rfl)) (mvT hZ (wd 268 rfl)) (notFace_of_selects (args := #[]) (mvT hZ (wd 270 rfl))) (mvT hZ (wd 270 rfl)) (mvT hZ (wd 269 rfl)) (by decide) (backOf (W := 0) (rpu l Z a0 hw [] b1 r1 T54.heap n0 (by omega) cf_59) hZ (wd 271 rfl) (wd 3 rfl) (by decide) (by decide)) q60a q60c (g := (mkF m 247 #[.val (.int cnt), .val (.int fl), .val (.long r1), .second, .val (.long r2), .second, .val (.long r3), .second, .val (.int (1 : Int32)), .val (.ref b1), .val (.ref b4), .val (.ref b7), .val (.ref b10), .val (.ref b19), .val (.ref b29), .val (.ref b38), .val (.ref b1), .val (.long r1), .second, .val (.ref b44), .val (.ref b1)] [(.ref b1)])) rfl (by rw [hml]; rfl) (Steps.refl _) (argsL := []) (rest := []) (lenOf pd___J rfl) rfl (Nat.le_of_eq rfl) (hb hby at_247) (fun _ _ => ⟨rfl, e58, (by decide : 23 + 0 ≤ _), (by decide : 119 + 0 ≤ _)⟩)
    dsimp only [Pt.U, Pt.locs, Pt.cells, Pt.slots] at X60 l60 y60 z60 st60 hQ60
    subst l60 y60 z60
    obtain ⟨rfl, N60q, e60⟩ := hQ60
    have N60 := Fr.app N58 N60q
    refine go_tr (B := (T60.setTop (mkF m 250 #[.val (.int cnt), .val (.int fl), .val (.long r1), .second, .val (.long r2), .second, .val (.long r3), .second, .val (.int (1 : Int32)), .val (.ref b1), .val (.ref b4), .val (.ref b7), .val (.ref b10), .val (.ref b19), .val (.ref b29), .val (.ref b38), .val (.ref b1), .val (.long r1), .second, .val (.ref b44), .val (.ref b1)] [(.long r1)]))) (st60) ?_
    refine go_of (B := (T60.setTop (mkF m 261 #[.val (.int cnt), .val (.int fl), .val (.long r1), .second, .val (.long r2), .second, .val (.long r3), .second, .val (.int (1 : Int32)), .val (.ref b1), .val (.ref b4), .val (.ref b7), .val (.ref b10), .val (.ref b19), .val (.ref b29), .val (.ref b38), .val (.ref b1), .val (.long r1), .second, .val (.ref b44), .val (.ref b1)] [(.int (1 : Int32))]))) (fun _ kk => XS.lload X60.here hx rfl (hb hby at_250) rfl (XS.lcmp X60.here hx rfl (hb hby at_252) rfl (XS.ifNo X60.here hx rfl (hb hby at_253) rfl ((if0 _ _).trans (teq ((lw_eq _ _).mpr rfl)).2) (XS.iconst X60.here hx rfl (hb hby at_256) (XS.goto X60.here hx rfl (pc0 := 257) (pc' := 261) rfl (hb hby at_257) (by decide) (by decide) kk))))) ?_
    refine go_endW X60 hS (by rw [e60]; omega) (v := some (.int (nar .boolean (1 : Int32)))) (fun h => by rw [hret] at h; cases h) hlk (by decide) (by decide) (Q := (Q_rm0 Z cnt fl r1 r2 r3 wT wA wE wM wD kD mr h0 n0)) ?_ (fun fs hr => retN X60 hx (t := .boolean) hret (by simp) (hb hby at_261) hr)
    unfold Q_rm0
    try rw [e60]
    exact ⟨rfl, N60⟩
  · refine go_of (B := (T20.setTop (mkF m 106 #[.val (.int cnt), .val (.int fl), .val (.long r1), .second, .val (.long r2), .second, .val (.long r3), .second, .val (.int (1 : Int32)), .val (.ref b1), .val (.ref b4), .val (.ref b7), .val (.ref b10), .unset, .unset, .unset, .unset, .unset, .unset, .unset, .unset] [(.ref b4), (.ref b20), (.ref b19), (.ref b19)]))) (fun _ kk => XS.ifNo X20.here hx rfl (hb hby at_97) rfl ((if0 _ _).trans (feq hcc21).1) (XS.aload X20.here hx rfl (hb hby at_100) rfl rfl (XS.goto X20.here hx rfl (pc0 := 102) (pc' := 106) rfl (hb hby at_102) (by decide) (by decide) kk))) ?_
    have cf_62 := (((cf_12.keep K18 (allS (by first | omega | exact own_ne (by omega) | exact own_le (by omega)) all0)).ext E19).ext E20)
    have cf_63 := (A19.ext E20)
    have cf_64 := (F19_key.ext E20)
    have cf_65 := (F19_value.ext E20)
    have cf_66 := (F19_rateLimit.ext E20)
    have cf_67 := (F19_descriptors.ext E20)
    obtain ⟨_, _, ⟨T68, L68, k68, n68⟩, -, X68', hS68', gr68, ⟨Lc68, hQ68, l68, y68, z68⟩, st68⟩ := X20.specialBackS hx (y := MN0) rfl hown (mvT hZ (wd 46 rfl)) (mvT hZ (wd 47 rfl)) (mvT hZ (wd 48 rfl)) (by decide) (backOfS (W := 1) (ds2r l Z a0 hw [] b19 b20 b4 wE _ _ _ _ h20 n0 (by omega) cf_62 SE EE FE cf_63 cf_64 cf_65 cf_66 cf_67 (by first | omega | exact own_ne (by omega) | exact own_le (by omega))) hZ (wd 48 rfl) (wd 37 rfl) (by decide) (by decide)) (g := (mkF m 106 #[.val (.int cnt), .val (.int fl), .val (.long r1), .second, .val (.long r2), .second, .val (.long r3), .second, .val (.int (1 : Int32)), .val (.ref b1), .val (.ref b4), .val (.ref b7), .val (.ref b10), .unset, .unset, .unset, .unset, .unset, .unset, .unset, .unset] [(.ref b4), (.ref b20), (.ref b19), (.ref b19)])) rfl (by rw [hml]; rfl) (Steps.refl _) (a := b19) (argsL := [(.ref b20), (.ref b4)]) (rest := [(.ref b19)]) (lenOf pd__Ljava_lang_String_Lcom_example_wombat_wombat_rules_RateLimit__V rfl) rfl (Nat.le_of_eq rfl) (hb hby at_106) (fun _ _ => ⟨rfl, e20, (by decide : 11 + 2 ≤ _), (by decide : 58 + 16 ≤ _)⟩)
    dsimp only [Pt.U, Pt.locs, Pt.cells, Pt.slots] at X68' hS68' gr68 l68 y68 z68 st68 hQ68
    subst l68 y68 z68
    have X68 : Stand _ _ _ _ (s.setVm T68.vm) _ _ _ _ _ T68 _ _ _ := X68'
    have hS : s.Since T68.vm T68.heap.size := foldS hS (by rw [e20]; omega) hS68' gr68
    have hZ : Z.Warmed39 (s.setVm T68.vm).vm := State.Warmed39.trans (t := s.setVm T20.vm) hZ hS68'.1
    have hown : (s.setVm T68.vm).vm.findClass "com/example/wombat/wombat/rules/LimitRateLimitPinLaw" = some m.cls := by rw [show (s.setVm T68.vm).vm = T68.vm from rfl, hS68'.1.alike.findClass]; exact hown
    obtain ⟨rfl, N68q, K68, A68⟩ := hQ68
    have N68 := Fr.app N18 N68q
    have sz68 := K68.1
    refine go_tr (B := (T68.setTop (mkF m 109 #[.val (.int cnt), .val (.int fl), .val (.long r1), .second, .val (.long r2), .second, .val (.long r3), .second, .val (.int (1 : Int32)), .val (.ref b1), .val (.ref b4), .val (.ref b7), .val (.ref b10), .unset, .unset, .unset, .unset, .unset, .unset, .unset, .unset] [(.ref b19)]))) (st68) ?_
    refine go_of (B := (T68.setTop (mkF m 111 #[.val (.int cnt), .val (.int fl), .val (.long r1), .second, .val (.long r2), .second, .val (.long r3), .second, .val (.int (1 : Int32)), .val (.ref b1), .val (.ref b4), .val (.ref b7), .val (.ref b10), .val (.ref b19), .unset, .unset, .unset, .unset, .unset, .unset, .unset] []))) (fun _ kk => XS.astore X68.here hx rfl (hb hby at_109) rfl rfl rfl kk) ?_
    obtain ⟨T69, h69, X69, e69, E69, A69, D69, -, st69⟩ := newO X68 hx hZ hown (wd 35 rfl) (wd 36 rfl) (wd 37 rfl) rfl (g := (mkF m 111 #[.val (.int cnt), .val (.int fl), .val (.long r1), .second, .val (.long r2), .second, .val (.long r3), .second, .val (.int (1 : Int32)), .val (.ref b1), .val (.ref b4), .val (.ref b7), .val (.ref b10), .val (.ref b19), .unset, .unset, .unset, .unset, .unset, .unset, .unset] [])) rfl (hb hby at_111) (by decide) (by decide)
    obtain ⟨b69, g69⟩ : ∃ z, z = T68.heap.size := ⟨_, rfl⟩
    rw [← g69] at A69 D69 st69
    have hi69 := own_nlt A69.lt
    have sz69 := E69.1
    have F69_key : Fld Z h69 b69 "com/example/wombat/wombat/rules/Descriptor" "key" "Ljava/lang/String;" .null := D69 (Or.inr (wd 83 rfl)) (ty := (.object "java/lang/String")) (by decide)
    have F69_value : Fld Z h69 b69 "com/example/wombat/wombat/rules/Descriptor" "value" "Ljava/lang/String;" .null := D69 (Or.inr (wd 85 rfl)) (ty := (.object "java/lang/String")) (by decide)
    have F69_rateLimit : Fld Z h69 b69 "com/example/wombat/wombat/rules/Descriptor" "rateLimit" "Lcom/example/wombat/wombat/rules/RateLimit;" .null := D69 (Or.inr (wd 87 rfl)) (ty := (.object "com/example/wombat/wombat/rules/RateLimit")) (by decide)
    have F69_descriptors : Fld Z h69 b69 "com/example/wombat/wombat/rules/Descriptor" "descriptors" "Ljava/util/List;" .null := D69 (Or.inr (wd 89 rfl)) (ty := (.object "java/util/List")) (by decide)
    refine go_of (B := (T69.setTop (mkF m 114 #[.val (.int cnt), .val (.int fl), .val (.long r1), .second, .val (.long r2), .second, .val (.long r3), .second, .val (.int (1 : Int32)), .val (.ref b1), .val (.ref b4), .val (.ref b7), .val (.ref b10), .val (.ref b19), .unset, .unset, .unset, .unset, .unset, .unset, .unset] [(.ref b69)]))) (st69) ?_
    refine go_of (B := (T69.setTop (mkF m 115 #[.val (.int cnt), .val (.int fl), .val (.long r1), .second, .val (.long r2), .second, .val (.long r3), .second, .val (.int (1 : Int32)), .val (.ref b1), .val (.ref b4), .val (.ref b7), .val (.ref b10), .val (.ref b19), .unset, .unset, .unset, .unset, .unset, .unset, .unset] [(.ref b69), (.ref b69)]))) (fun _ kk => XS.dup X69.here hx rfl (hb hby at_114) rfl rfl kk) ?_
    obtain ⟨b70, T70, h70, k70, X70, e70, E70, hS, hk70, hZ, hown, st70⟩ := ldcS X69 hx hZ hown (wd 91 rfl) (own_wS hw) e69 hS (by first | omega | exact own_ne (by omega) | exact own_le (by omega)) (g := (mkF m 115 #[.val (.int cnt), .val (.int fl), .val (.long r1), .second, .val (.long r2), .second, .val (.long r3), .second, .val (.int (1 : Int32)), .val (.ref b1), .val (.ref b4), .val (.ref b7), .val (.ref b10), .val (.ref b19), .unset, .unset, .unset, .unset, .unset, .unset, .unset] [(.ref b69), (.ref b69)])) rfl (hb hby at_115) (n := 4) (by decide) (by decide) (by decide) (by decide)
    have sz70 := E70.1
    refine go_of (B := (T70.setTop (mkF m 117 #[.val (.int cnt), .val (.int fl), .val (.long r1), .second, .val (.long r2), .second, .val (.long r3), .second, .val (.int (1 : Int32)), .val (.ref b1), .val (.ref b4), .val (.ref b7), .val (.ref b10), .val (.ref b19), .unset, .unset, .unset, .unset, .unset, .unset, .unset] [(.ref b70), (.ref b69), (.ref b69)]))) (st70) ?_
    refine go_of (B := (T70.setTop (mkF m 119 #[.val (.int cnt), .val (.int fl), .val (.long r1), .second, .val (.long r2), .second, .val (.long r3), .second, .val (.int (1 : Int32)), .val (.ref b1), .val (.ref b4), .val (.ref b7), .val (.ref b10), .val (.ref b19), .unset, .unset, .unset, .unset, .unset, .unset, .unset] [(.ref b7), (.ref b70), (.ref b69), (.ref b69)]))) (fun _ kk => XS.aload X70.here hx rfl (hb hby at_117) rfl rfl kk) ?_
    have cf_71 := (((cf_62.keep K68 (allS (by first | omega | exact own_ne (by omega) | exact own_le (by omega)) all0)).ext E69).ext E70)
    have cf_72 := (A69.ext E70)
    have cf_73 := (F69_key.ext E70)
    have cf_74 := (F69_value.ext E70)
    have cf_75 := (F69_rateLimit.ext E70)
    have cf_76 := (F69_descriptors.ext E70)
    obtain ⟨_, _, ⟨T77, L77, k77, n77⟩, -, X77', hS77', gr77, ⟨Lc77, hQ77, l77, y77, z77⟩, st77⟩ := X70.specialBackS hx (y := MN0) rfl hown (mvT hZ (wd 46 rfl)) (mvT hZ (wd 47 rfl)) (mvT hZ (wd 48 rfl)) (by decide) (backOfS (W := 1) (ds2r l Z a0 hw [] b69 b70 b7 wE _ _ _ _ h70 n0 (by omega) cf_71 SE EE FE cf_72 cf_73 cf_74 cf_75 cf_76 (by first | omega | exact own_ne (by omega) | exact own_le (by omega))) hZ (wd 48 rfl) (wd 37 rfl) (by decide) (by decide)) (g := (mkF m 119 #[.val (.int cnt), .val (.int fl), .val (.long r1), .second, .val (.long r2), .second, .val (.long r3), .second, .val (.int (1 : Int32)), .val (.ref b1), .val (.ref b4), .val (.ref b7), .val (.ref b10), .val (.ref b19), .unset, .unset, .unset, .unset, .unset, .unset, .unset] [(.ref b7), (.ref b70), (.ref b69), (.ref b69)])) rfl (by rw [hml]; rfl) (Steps.refl _) (a := b69) (argsL := [(.ref b70), (.ref b7)]) (rest := [(.ref b69)]) (lenOf pd__Ljava_lang_String_Lcom_example_wombat_wombat_rules_RateLimit__V rfl) rfl (Nat.le_of_eq rfl) (hb hby at_119) (fun _ _ => ⟨rfl, e70, (by decide : 16 + 2 ≤ _), (by decide : 86 + 16 ≤ _)⟩)
    dsimp only [Pt.U, Pt.locs, Pt.cells, Pt.slots] at X77' hS77' gr77 l77 y77 z77 st77 hQ77
    subst l77 y77 z77
    have X77 : Stand _ _ _ _ (s.setVm T77.vm) _ _ _ _ _ T77 _ _ _ := X77'
    have hS : s.Since T77.vm T77.heap.size := foldS hS (by rw [e70]; omega) hS77' gr77
    have hZ : Z.Warmed39 (s.setVm T77.vm).vm := State.Warmed39.trans (t := s.setVm T70.vm) hZ hS77'.1
    have hown : (s.setVm T77.vm).vm.findClass "com/example/wombat/wombat/rules/LimitRateLimitPinLaw" = some m.cls := by rw [show (s.setVm T77.vm).vm = T77.vm from rfl, hS77'.1.alike.findClass]; exact hown
    obtain ⟨rfl, N77q, K77, A77⟩ := hQ77
    have N77 := Fr.app N68 N77q
    have sz77 := K77.1
    refine go_tr (B := (T77.setTop (mkF m 122 #[.val (.int cnt), .val (.int fl), .val (.long r1), .second, .val (.long r2), .second, .val (.long r3), .second, .val (.int (1 : Int32)), .val (.ref b1), .val (.ref b4), .val (.ref b7), .val (.ref b10), .val (.ref b19), .unset, .unset, .unset, .unset, .unset, .unset, .unset] [(.ref b69)]))) (st77) ?_
    refine go_of (B := (T77.setTop (mkF m 124 #[.val (.int cnt), .val (.int fl), .val (.long r1), .second, .val (.long r2), .second, .val (.long r3), .second, .val (.int (1 : Int32)), .val (.ref b1), .val (.ref b4), .val (.ref b7), .val (.ref b10), .val (.ref b19), .val (.ref b69), .unset, .unset, .unset, .unset, .unset, .unset] []))) (fun _ kk => XS.astore X77.here hx rfl (hb hby at_122) rfl rfl rfl kk) ?_
    obtain ⟨T78, h78, X78, e78, E78, A78, D78, -, st78⟩ := newO X77 hx hZ hown (wd 92 rfl) (wd 93 rfl) (wd 94 rfl) rfl (g := (mkF m 124 #[.val (.int cnt), .val (.int fl), .val (.long r1), .second, .val (.long r2), .second, .val (.long r3), .second, .val (.int (1 : Int32)), .val (.ref b1), .val (.ref b4), .val (.ref b7), .val (.ref b10), .val (.ref b19), .val (.ref b69), .unset, .unset, .unset, .unset, .unset, .unset] [])) rfl (hb hby at_124) (by decide) (by decide)
    obtain ⟨b78, g78⟩ : ∃ z, z = T77.heap.size := ⟨_, rfl⟩
    rw [← g78] at A78 D78 st78
    have hi78 := own_nlt A78.lt
    have sz78 := E78.1
    have F78_modCount : Fld Z h78 b78 "java/util/AbstractList" "modCount" "I" (.int (0 : Int32)) := D78 (Or.inl (wd 112 rfl)) (ty := .int) (by decide)
    have F78_elementData : Fld Z h78 b78 "java/util/ArrayList" "elementData" "[Ljava/lang/Object;" .null := D78 (Or.inl (wd 115 rfl)) (ty := (.array (.object "java/lang/Object"))) (by decide)
    have F78_size : Fld Z h78 b78 "java/util/ArrayList" "size" "I" (.int (0 : Int32)) := D78 (Or.inl (wd 124 rfl)) (ty := .int) (by decide)
    refine go_of (B := (T78.setTop (mkF m 127 #[.val (.int cnt), .val (.int fl), .val (.long r1), .second, .val (.long r2), .second, .val (.long r3), .second, .val (.int (1 : Int32)), .val (.ref b1), .val (.ref b4), .val (.ref b7), .val (.ref b10), .val (.ref b19), .val (.ref b69), .unset, .unset, .unset, .unset, .unset, .unset] [(.ref b78)]))) (st78) ?_
    refine go_of (B := (T78.setTop (mkF m 128 #[.val (.int cnt), .val (.int fl), .val (.long r1), .second, .val (.long r2), .second, .val (.long r3), .second, .val (.int (1 : Int32)), .val (.ref b1), .val (.ref b4), .val (.ref b7), .val (.ref b10), .val (.ref b19), .val (.ref b69), .unset, .unset, .unset, .unset, .unset, .unset] [(.ref b78), (.ref b78)]))) (fun _ kk => XS.dup X78.here hx rfl (hb hby at_127) rfl rfl kk) ?_
    have cf_79 := ((cf_71.keep K77 (allS (by first | omega | exact own_ne (by omega) | exact own_le (by omega)) all0)).ext E78)
    obtain ⟨_, _, ⟨T80, L80, k80, n80⟩, -, X80, ⟨Lc80, hQ80, l80, y80, z80⟩, st80⟩ := X78.specialBack hx (y := MN10) rfl hown (mvT hZ (wd 95 rfl)) (mvT hZ (wd 96 rfl)) (mvT hZ (wd 97 rfl)) (by decide) (backOf (W := 1) (rm11 l Z a0 hw [] b78 _ _ wD h78 n0 (by omega) A78 F78_modCount F78_elementData F78_size (by first | omega | exact own_ne (by omega) | exact own_le (by omega)) cf_79 SD) hZ (wd 97 rfl) (wd 94 rfl) (by decide) (by decide)) (g := (mkF m 128 #[.val (.int cnt), .val (.int fl), .val (.long r1), .second, .val (.long r2), .second, .val (.long r3), .second, .val (.int (1 : Int32)), .val (.ref b1), .val (.ref b4), .val (.ref b7), .val (.ref b10), .val (.ref b19), .val (.ref b69), .unset, .unset, .unset, .unset, .unset, .unset] [(.ref b78), (.ref b78)])) rfl (by rw [hml]; rfl) (Steps.refl _) (a := b78) (argsL := []) (rest := [(.ref b78)]) (lenOf pd___V rfl) rfl (Nat.le_of_eq rfl) (hb hby at_128) (fun _ _ => ⟨rfl, e78, (by decide : 19 + 0 ≤ _), (by decide : 105 + 0 ≤ _)⟩)
    dsimp only [Pt.U, Pt.locs, Pt.cells, Pt.slots] at X80 l80 y80 z80 st80 hQ80
    subst l80 y80 z80
    obtain ⟨rfl, N80q, K80, A80⟩ := hQ80
    have N80 := Fr.app N77 N80q
    have sz80 := K80.1
    refine go_tr (B := (T80.setTop (mkF m 131 #[.val (.int cnt), .val (.int fl), .val (.long r1), .second, .val (.long r2), .second, .val (.long r3), .second, .val (.int (1 : Int32)), .val (.ref b1), .val (.ref b4), .val (.ref b7), .val (.ref b10), .val (.ref b19), .val (.ref b69), .unset, .unset, .unset, .unset, .unset, .unset] [(.ref b78)]))) (st80) ?_
    refine go_of (B := (T80.setTop (mkF m 137 #[.val (.int cnt), .val (.int fl), .val (.long r1), .second, .val (.long r2), .second, .val (.long r3), .second, .val (.int (1 : Int32)), .val (.ref b1), .val (.ref b4), .val (.ref b7), .val (.ref b10), .val (.ref b19), .val (.ref b69), .val (.ref b78), .unset, .unset, .unset, .unset, .unset] [(.ref b10), (.ref b78)]))) (fun _ kk => XS.astore X80.here hx rfl (hb hby at_131) rfl rfl rfl (XS.aload X80.here hx rfl (hb hby at_133) rfl rfl (XS.aload X80.here hx rfl (hb hby at_135) rfl rfl kk))) ?_
    have cf_81 := (cf_79.keep K80 (allS (by first | omega | exact own_ne (by omega) | exact own_le (by omega)) all0))
    have cf_82 := ((((((((A18.1.ext E19).ext E20).keep K68).ext E69).ext E70).keep K77).ext E78).keep K80)
    obtain ⟨cq83, kq83, q83a, q83b, q83c⟩ := isOf hZ rfl A80.1
    obtain ⟨_, _, ⟨T83, L83, k83, n83⟩, -, X83, ⟨Lc83, hQ83, l83, y83, z83⟩, st83⟩ := X80.virtualBack hx (y := MN11) (z := MN11) hown (mvT hZ (wd 116 rfl)) (mvT hZ (wd 117 rfl)) (notFace_of_selects (args := #[]) (mvT hZ (wd 119 rfl))) (mvT hZ (wd 119 rfl)) (mvT hZ (wd 118 rfl)) (by decide) (backOf (W := 0) (add0 l Z a0 hw [] b78 b10 (0 : Int32) wD kD T80.heap n0 (by omega) ⟨A80.1, A80.2.1, A80.2.2.1, A80.2.2.2⟩ (by first | omega | exact own_ne (by omega) | exact own_le (by omega)) cf_81 SD (VD.ext cf_81.2) D0 (Ins.of_exa cf_82 (wd 146 rfl))) hZ (wd 120 rfl) (wd 94 rfl) (by decide) (by decide)) q83a q83c (g := (mkF m 137 #[.val (.int cnt), .val (.int fl), .val (.long r1), .second, .val (.long r2), .second, .val (.long r3), .second, .val (.int (1 : Int32)), .val (.ref b1), .val (.ref b4), .val (.ref b7), .val (.ref b10), .val (.ref b19), .val (.ref b69), .val (.ref b78), .unset, .unset, .unset, .unset, .unset] [(.ref b10), (.ref b78)])) rfl (by rw [hml]; rfl) (Steps.refl _) (argsL := [(.ref b10)]) (rest := []) (lenOf pd__Ljava_lang_Object__Z rfl) rfl (Nat.le_of_eq rfl) (hb hby at_137) (fun _ _ => ⟨rfl, rfl, (by decide : 19 + 1 ≤ _), (by decide : 105 + 10 ≤ _)⟩)
    dsimp only [Pt.U, Pt.locs, Pt.cells, Pt.slots] at X83 l83 y83 z83 st83 hQ83
    subst l83 y83 z83
    obtain ⟨b83, k83, rfl, N83q, lo83, K83, A83, V83, O83, XE83⟩ := hQ83
    have lo83 := own_nle lo83
    have N83 := Fr.app N80 N83q
    have hi83 := own_nlt (V83.lt)
    have sz83 := K83.1
    refine go_tr (B := (T83.setTop (mkF m 140 #[.val (.int cnt), .val (.int fl), .val (.long r1), .second, .val (.long r2), .second, .val (.long r3), .second, .val (.int (1 : Int32)), .val (.ref b1), .val (.ref b4), .val (.ref b7), .val (.ref b10), .val (.ref b19), .val (.ref b69), .val (.ref b78), .unset, .unset, .unset, .unset, .unset] [(.int (1 : Int32))]))) (st83) ?_
    refine go_of (B := (T83.setTop (mkF m 158 #[.val (.int cnt), .val (.int fl), .val (.long r1), .second, .val (.long r2), .second, .val (.long r3), .second, .val (.int (1 : Int32)), .val (.ref b1), .val (.ref b4), .val (.ref b7), .val (.ref b10), .val (.ref b19), .val (.ref b69), .val (.ref b78), .unset, .unset, .unset, .unset, .unset] [(.int (3 : Int32)), (.int (1 : Int32))]))) (fun _ kk => XS.pop X83.here hx rfl (hb hby at_140) rfl rfl (XS.iload X83.here hx rfl (hb hby at_141) rfl (XS.iconst X83.here hx rfl (hb hby at_143) (XS.icmpYes X83.here hx rfl (pc0 := 144) (pc' := 155) rfl (hb hby at_144) rfl (tlt (by decide : (1 : Int32) < (2 : Int32))).1 (by decide) (by decide) (XS.iload X83.here hx rfl (hb hby at_155) rfl (XS.iconst X83.here hx rfl (hb hby at_157) kk)))))) ?_
    refine go_of (B := (T83.setTop (mkF m 193 #[.val (.int cnt), .val (.int fl), .val (.long r1), .second, .val (.long r2), .second, .val (.long r3), .second, .val (.int (1 : Int32)), .val (.ref b1), .val (.ref b4), .val (.ref b7), .val (.ref b10), .val (.ref b19), .val (.ref b69), .val (.ref b78), .unset, .unset, .unset, .unset, .unset] [(.ref b1)]))) (fun _ kk => XS.icmpYes X83.here hx rfl (pc0 := 158) (pc' := 169) rfl (hb hby at_158) rfl (tlt (by decide : (1 : Int32) < (3 : Int32))).1 (by decide) (by decide) (XS.iload X83.here hx rfl (hb hby at_169) rfl (XS.iconst X83.here hx rfl (hb hby at_171) (XS.icmpNo X83.here hx rfl (hb hby at_172) rfl (teq (by decide : (1 : Int32) = (1 : Int32))).2 (XS.aload X83.here hx rfl (hb hby at_175) rfl rfl (XS.goto X83.here hx rfl (pc0 := 177) (pc' := 193) rfl (hb hby at_177) (by decide) (by decide) kk)))))) ?_
    refine go_of (B := (T83.setTop (mkF m 218 #[.val (.int cnt), .val (.int fl), .val (.long r1), .second, .val (.long r2), .second, .val (.long r3), .second, .val (.int (1 : Int32)), .val (.ref b1), .val (.ref b4), .val (.ref b7), .val (.ref b10), .val (.ref b19), .val (.ref b69), .val (.ref b78), .val (.ref b1), .unset, .unset, .unset, .unset] [(.long r1)]))) (fun _ kk => XS.astore X83.here hx rfl (hb hby at_193) rfl rfl rfl (XS.iload X83.here hx rfl (hb hby at_195) rfl (XS.iconst X83.here hx rfl (hb hby at_197) (XS.icmpNo X83.here hx rfl (hb hby at_198) rfl (teq (by decide : (1 : Int32) = (1 : Int32))).2 (XS.lloadN X83.here hx rfl (hb hby at_201) rfl (XS.goto X83.here hx rfl (pc0 := 202) (pc' := 218) rfl (hb hby at_202) (by decide) (by decide) kk)))))) ?_
    refine go_of (B := (T83.setTop (mkF m 220 #[.val (.int cnt), .val (.int fl), .val (.long r1), .second, .val (.long r2), .second, .val (.long r3), .second, .val (.int (1 : Int32)), .val (.ref b1), .val (.ref b4), .val (.ref b7), .val (.ref b10), .val (.ref b19), .val (.ref b69), .val (.ref b78), .val (.ref b1), .val (.long r1), .second, .unset, .unset] []))) (fun _ kk => XS.lstore X83.here hx rfl (hb hby at_218) rfl rfl kk) ?_
    obtain ⟨T84, h84, X84, e84, E84, A84, D84, -, st84⟩ := newO X83 hx hZ hown (wd 147 rfl) (wd 148 rfl) (wd 149 rfl) rfl (g := (mkF m 220 #[.val (.int cnt), .val (.int fl), .val (.long r1), .second, .val (.long r2), .second, .val (.long r3), .second, .val (.int (1 : Int32)), .val (.ref b1), .val (.ref b4), .val (.ref b7), .val (.ref b10), .val (.ref b19), .val (.ref b69), .val (.ref b78), .val (.ref b1), .val (.long r1), .second, .unset, .unset] [])) rfl (hb hby at_220) (by decide) (by decide)
    obtain ⟨b84, g84⟩ : ∃ z, z = T83.heap.size := ⟨_, rfl⟩
    rw [← g84] at A84 D84 st84
    have hi84 := own_nlt A84.lt
    have sz84 := E84.1
    have F84_descriptors : Fld Z h84 b84 "com/example/wombat/wombat/rules/Limit" "descriptors" "Ljava/util/List;" .null := D84 (Or.inr (wd 261 rfl)) (ty := (.object "java/util/List")) (by decide)
    refine go_of (B := (T84.setTop (mkF m 223 #[.val (.int cnt), .val (.int fl), .val (.long r1), .second, .val (.long r2), .second, .val (.long r3), .second, .val (.int (1 : Int32)), .val (.ref b1), .val (.ref b4), .val (.ref b7), .val (.ref b10), .val (.ref b19), .val (.ref b69), .val (.ref b78), .val (.ref b1), .val (.long r1), .second, .unset, .unset] [(.ref b84)]))) (st84) ?_
    refine go_of (B := (T84.setTop (mkF m 226 #[.val (.int cnt), .val (.int fl), .val (.long r1), .second, .val (.long r2), .second, .val (.long r3), .second, .val (.int (1 : Int32)), .val (.ref b1), .val (.ref b4), .val (.ref b7), .val (.ref b10), .val (.ref b19), .val (.ref b69), .val (.ref b78), .val (.ref b1), .val (.long r1), .second, .unset, .unset] [(.ref b78), (.ref b84), (.ref b84)]))) (fun _ kk => XS.dup X84.here hx rfl (hb hby at_223) rfl rfl (XS.aload X84.here hx rfl (hb hby at_224) rfl rfl kk)) ?_
    have cf_85 := ((cf_82.keep K83).ext E84)
    have cf_86 := ((cf_81.keep K83 (allS (by first | omega | exact own_ne (by omega) | exact own_le (by omega)) all0)).ext E84)
    have cf_87 := (A83.1.ext E84)
    have cf_88 := (A83.2.1.ext E84)
    have cf_89 := (A83.2.2.1.ext E84)
    have cf_90 := (A83.2.2.2.ext E84)
    have cf_91 := (V83.ext E84)
    have cf_92 := (XE83.ext E84)
    have cf_93 := ((((((((((A18.2.ext E19).ext E20).keep K68 (ninS (by first | omega | exact own_ne (by omega) | exact own_le (by omega)) nin0)).ext E69).ext E70).keep K77 (ninS (by first | omega | exact own_ne (by omega) | exact own_le (by omega)) nin0)).ext E78).keep K80 (ninS (by first | omega | exact own_ne (by omega) | exact own_le (by omega)) nin0)).keep K83 (ninS (by first | omega | exact own_ne (by omega) | exact own_le (by omega)) nin0)).ext E84)
    obtain ⟨_, _, ⟨T94, L94, k94, n94⟩, -, X94, ⟨Lc94, hQ94, l94, y94, z94⟩, st94⟩ := X84.specialBack hx (y := MN3) rfl hown (mvT hZ (wd 150 rfl)) (mvT hZ (wd 151 rfl)) (mvT hZ (wd 152 rfl)) (by decide) (backOf (W := 1) (lim_1 l Z a0 hw [] b84 b78 _ b83 ((0 : Int32) + (1 : Int32)) k83 b10 mr wM b1 h84 n0 (by omega) cf_86 SM ⟨cf_87, cf_88, cf_89, cf_90⟩ M cf_91 (Ins.of_exa cf_85 (wd 146 rfl)) cf_92 A84 F84_descriptors (by first | omega | exact own_ne (by omega) | exact own_le (by omega)) cf_85 cf_93) hZ (wd 152 rfl) (wd 149 rfl) (by decide) (by decide)) (g := (mkF m 226 #[.val (.int cnt), .val (.int fl), .val (.long r1), .second, .val (.long r2), .second, .val (.long r3), .second, .val (.int (1 : Int32)), .val (.ref b1), .val (.ref b4), .val (.ref b7), .val (.ref b10), .val (.ref b19), .val (.ref b69), .val (.ref b78), .val (.ref b1), .val (.long r1), .second, .unset, .unset] [(.ref b78), (.ref b84), (.ref b84)])) rfl (by rw [hml]; rfl) (Steps.refl _) (a := b84) (argsL := [(.ref b78)]) (rest := [(.ref b84)]) (lenOf pd__Ljava_util_List__V rfl) rfl (Nat.le_of_eq rfl) (hb hby at_226) (fun _ _ => ⟨rfl, e84, (by decide : 21 + 2 ≤ _), (by decide : 116 + 3 ≤ _)⟩)
    dsimp only [Pt.U, Pt.locs, Pt.cells, Pt.slots] at X94 l94 y94 z94 st94 hQ94
    subst l94 y94 z94
    obtain ⟨t94, rfl, N94q, lo94, K94, E94, F94, A94⟩ := hQ94
    have lo94 := own_nle lo94
    have N94 := Fr.app N83 N94q
    have sz94 := K94.1
    refine go_tr (B := (T94.setTop (mkF m 229 #[.val (.int cnt), .val (.int fl), .val (.long r1), .second, .val (.long r2), .second, .val (.long r3), .second, .val (.int (1 : Int32)), .val (.ref b1), .val (.ref b4), .val (.ref b7), .val (.ref b10), .val (.ref b19), .val (.ref b69), .val (.ref b78), .val (.ref b1), .val (.long r1), .second, .unset, .unset] [(.ref b84)]))) (st94) ?_
    refine go_of (B := (T94.setTop (mkF m 233 #[.val (.int cnt), .val (.int fl), .val (.long r1), .second, .val (.long r2), .second, .val (.long r3), .second, .val (.int (1 : Int32)), .val (.ref b1), .val (.ref b4), .val (.ref b7), .val (.ref b10), .val (.ref b19), .val (.ref b69), .val (.ref b78), .val (.ref b1), .val (.long r1), .second, .val (.ref b84), .unset] [(.ref b84)]))) (fun _ kk => XS.astore X94.here hx rfl (hb hby at_229) rfl rfl rfl (XS.aload X94.here hx rfl (hb hby at_231) rfl rfl kk)) ?_
    have cf_95 := (cf_86.keep K94 (allS (by first | omega | exact own_ne (by omega) | exact own_le (by omega)) all0))
    have cf_96 := (cf_85.keep K94)
    have cf_97 := (cf_93.keep K94 (ninS (by first | omega | exact own_ne (by omega) | exact own_le (by omega)) nin0))
    obtain ⟨cq98, kq98, q98a, q98b, q98c⟩ := isOf hZ rfl E94
    obtain ⟨_, _, ⟨T98, L98, k98, n98⟩, -, X98, ⟨Lc98, hQ98, l98, y98, z98⟩, st98⟩ := X94.virtualBack hx (y := MN4) (z := MN4) hown (mvT hZ (wd 262 rfl)) (mvT hZ (wd 263 rfl)) (notFace_of_selects (args := #[]) (mvT hZ (wd 265 rfl))) (mvT hZ (wd 265 rfl)) (mvT hZ (wd 264 rfl)) (by decide) (backOf (W := 0) (lr_1 l Z a0 hw [] b84 t94 b10 wM b1 T94.heap n0 (by omega) cf_95 SM F94 A94 cf_96 cf_97) hZ (wd 266 rfl) (wd 149 rfl) (by decide) (by decide)) q98a q98c (g := (mkF m 233 #[.val (.int cnt), .val (.int fl), .val (.long r1), .second, .val (.long r2), .second, .val (.long r3), .second, .val (.int (1 : Int32)), .val (.ref b1), .val (.ref b4), .val (.ref b7), .val (.ref b10), .val (.ref b19), .val (.ref b69), .val (.ref b78), .val (.ref b1), .val (.long r1), .second, .val (.ref b84), .unset] [(.ref b84)])) rfl (by rw [hml]; rfl) (Steps.refl _) (argsL := []) (rest := []) (lenOf pd___Lcom_example_wombat_wombat_rules_RateLimit_ rfl) rfl (Nat.le_of_eq rfl) (hb hby at_233) (fun _ _ => ⟨rfl, rfl, (by decide : 23 + 0 ≤ _), (by decide : 119 + 0 ≤ _)⟩)
    dsimp only [Pt.U, Pt.locs, Pt.cells, Pt.slots] at X98 l98 y98 z98 st98 hQ98
    subst l98 y98 z98
    obtain ⟨rfl, N98q, e98⟩ := hQ98
    have N98 := Fr.app N94 N98q
    refine go_tr (B := (T98.setTop (mkF m 236 #[.val (.int cnt), .val (.int fl), .val (.long r1), .second, .val (.long r2), .second, .val (.long r3), .second, .val (.int (1 : Int32)), .val (.ref b1), .val (.ref b4), .val (.ref b7), .val (.ref b10), .val (.ref b19), .val (.ref b69), .val (.ref b78), .val (.ref b1), .val (.long r1), .second, .val (.ref b84), .unset] [(.ref b1)]))) (st98) ?_
    refine go_of (B := (T98.setTop (mkF m 247 #[.val (.int cnt), .val (.int fl), .val (.long r1), .second, .val (.long r2), .second, .val (.long r3), .second, .val (.int (1 : Int32)), .val (.ref b1), .val (.ref b4), .val (.ref b7), .val (.ref b10), .val (.ref b19), .val (.ref b69), .val (.ref b78), .val (.ref b1), .val (.long r1), .second, .val (.ref b84), .val (.ref b1)] [(.ref b1)]))) (fun _ kk => XS.astore X98.here hx rfl (hb hby at_236) rfl rfl rfl (XS.aload X98.here hx rfl (hb hby at_238) rfl rfl (XS.aload X98.here hx rfl (hb hby at_240) rfl rfl (Jvm.RoadKit.acmp (g := (mkF m 242 #[.val (.int cnt), .val (.int fl), .val (.long r1), .second, .val (.long r2), .second, .val (.long r3), .second, .val (.int (1 : Int32)), .val (.ref b1), .val (.ref b4), .val (.ref b7), .val (.ref b10), .val (.ref b19), .val (.ref b69), .val (.ref b78), .val (.ref b1), .val (.long r1), .second, .val (.ref b84), .val (.ref b1)] [(.ref b1), (.ref b1)])) X98 hx rfl rfl rfl (pc0 := 242) (pc' := 245) (same := true) rfl (hb hby at_242) rfl (decide_eq_true rfl) (by decide) (by decide) (XS.aload X98.here hx rfl (hb hby at_245) rfl rfl kk))))) ?_
    have cf_99 := ((((((((((((((((((A3.2.ext E4).keep K6 (ninS (by first | omega | exact own_ne (by omega) | exact own_le (by omega)) nin0)).ext E7).keep K9 (ninS (by first | omega | exact own_ne (by omega) | exact own_le (by omega)) nin0)).ext E10).ext E11).keep K18 (ninS (by first | omega | exact own_ne (by omega) | exact own_le (by omega)) nin0)).ext E19).ext E20).keep K68 (ninS (by first | omega | exact own_ne (by omega) | exact own_le (by omega)) nin0)).ext E69).ext E70).keep K77 (ninS (by first | omega | exact own_ne (by omega) | exact own_le (by omega)) nin0)).ext E78).keep K80 (ninS (by first | omega | exact own_ne (by omega) | exact own_le (by omega)) nin0)).keep K83 (ninS (by first | omega | exact own_ne (by omega) | exact own_le (by omega)) nin0)).ext E84).keep K94 (ninS (by first | omega | exact own_ne (by omega) | exact own_le (by omega)) nin0))
    have cf_101 := ((((((((((((((((((A3.1.ext E4).keep K6).ext E7).keep K9).ext E10).ext E11).keep K18).ext E19).ext E20).keep K68).ext E69).ext E70).keep K77).ext E78).keep K80).keep K83).ext E84).keep K94)
    obtain ⟨cq100, kq100, q100a, q100b, q100c⟩ := isOf hZ e98 cf_101
    obtain ⟨_, _, ⟨T100, L100, k100, n100⟩, -, X100, ⟨Lc100, hQ100, l100, y100, z100⟩, st100⟩ := X98.virtualBack hx (y := MN6) (z := MN6) hown (mvT hZ (wd 267 rfl)) (mvT hZ (wd 268 rfl)) (notFace_of_selects (args := #[]) (mvT hZ (wd 270 rfl))) (mvT hZ (wd 270 rfl)) (mvT hZ (wd 269 rfl)) (by decide) (backOf (W := 0) (rpu l Z a0 hw [] b1 r1 T94.heap n0 (by omega) cf_99) hZ (wd 271 rfl) (wd 3 rfl) (by decide) (by decide)) q100a q100c (g := (mkF m 247 #[.val (.int cnt), .val (.int fl), .val (.long r1), .second, .val (.long r2), .second, .val (.long r3), .second, .val (.int (1 : Int32)), .val (.ref b1), .val (.ref b4), .val (.ref b7), .val (.ref b10), .val (.ref b19), .val (.ref b69), .val (.ref b78), .val (.ref b1), .val (.long r1), .second, .val (.ref b84), .val (.ref b1)] [(.ref b1)])) rfl (by rw [hml]; rfl) (Steps.refl _) (argsL := []) (rest := []) (lenOf pd___J rfl) rfl (Nat.le_of_eq rfl) (hb hby at_247) (fun _ _ => ⟨rfl, e98, (by decide : 23 + 0 ≤ _), (by decide : 119 + 0 ≤ _)⟩)
    dsimp only [Pt.U, Pt.locs, Pt.cells, Pt.slots] at X100 l100 y100 z100 st100 hQ100
    subst l100 y100 z100
    obtain ⟨rfl, N100q, e100⟩ := hQ100
    have N100 := Fr.app N98 N100q
    refine go_tr (B := (T100.setTop (mkF m 250 #[.val (.int cnt), .val (.int fl), .val (.long r1), .second, .val (.long r2), .second, .val (.long r3), .second, .val (.int (1 : Int32)), .val (.ref b1), .val (.ref b4), .val (.ref b7), .val (.ref b10), .val (.ref b19), .val (.ref b69), .val (.ref b78), .val (.ref b1), .val (.long r1), .second, .val (.ref b84), .val (.ref b1)] [(.long r1)]))) (st100) ?_
    refine go_of (B := (T100.setTop (mkF m 261 #[.val (.int cnt), .val (.int fl), .val (.long r1), .second, .val (.long r2), .second, .val (.long r3), .second, .val (.int (1 : Int32)), .val (.ref b1), .val (.ref b4), .val (.ref b7), .val (.ref b10), .val (.ref b19), .val (.ref b69), .val (.ref b78), .val (.ref b1), .val (.long r1), .second, .val (.ref b84), .val (.ref b1)] [(.int (1 : Int32))]))) (fun _ kk => XS.lload X100.here hx rfl (hb hby at_250) rfl (XS.lcmp X100.here hx rfl (hb hby at_252) rfl (XS.ifNo X100.here hx rfl (hb hby at_253) rfl ((if0 _ _).trans (teq ((lw_eq _ _).mpr rfl)).2) (XS.iconst X100.here hx rfl (hb hby at_256) (XS.goto X100.here hx rfl (pc0 := 257) (pc' := 261) rfl (hb hby at_257) (by decide) (by decide) kk))))) ?_
    refine go_endW X100 hS (by rw [e100]; omega) (v := some (.int (nar .boolean (1 : Int32)))) (fun h => by rw [hret] at h; cases h) hlk (by decide) (by decide) (Q := (Q_rm0 Z cnt fl r1 r2 r3 wT wA wE wM wD kD mr h0 n0)) ?_ (fun fs hr => retN X100 hx (t := .boolean) hret (by simp) (hb hby at_261) hr)
    unfold Q_rm0
    try rw [e100]
    exact ⟨rfl, N100⟩
theorem lw2 {p : Program} {l : Launch} {e : Env} {s : State} {m : MethodId} {args : Array Value} {below : List Frame} {meth : Method} {c : Code} {Z : State} {a0 : Array Value} {h0 : Heap} {n0 : Nat} (cnt : Int32) (fl : Int32) (r1 : Int64) (r2 : Int64) (r3 : Int64) (wT : Addr) (wA : Addr) (wE : Addr) (wM : Addr) (wD : Addr) (kD : ClassId) (mr : Addr) {T0 : State} {locs : List Loc}
    (X0 : Stand p l e room_1 s m args below meth c T0 locs 0 0) (hx : p.tables.exec = Jvm.exec) (hZ : Z.Warmed39 s.vm) (hw : TW a0 Z) (hby : c.code = code) (hml : c.maxLocals = 21) (hown : s.vm.findClass "com/example/wombat/wombat/rules/LimitRateLimitPinLaw" = some m.cls) (hret : meth.sig.returnType = (some .boolean)) (hlk : meth.locks = false) (e0 : T0.heap = h0) (N0 : Fr n0 locs) (Z0 : n0 ≤ h0.size) (O : Old Z n0 h0) (ST : Sta Z Z.heap "com/example/wombat/wombat/rules/RateLimit" "DEFAULT_STORE_TIMEOUT" "Ljava/time/Duration;" (.ref wT)) (SA : Sta Z Z.heap "com/example/wombat/wombat/rules/OnStoreFailure" "ALLOW" "Lcom/example/wombat/wombat/rules/OnStoreFailure;" (.ref wA)) (SE : Sta Z Z.heap "java/util/ImmutableCollections" "EMPTY_LIST" "Ljava/util/ImmutableCollections$ListN;" (.ref wE)) (EE : Exa Z Z.heap wE "java/util/ImmutableCollections$ListN") (FE : Fld Z Z.heap wE "java/util/ImmutableCollections$ListN" "allowNulls" "Z" (.int 0)) (SM : Sta Z Z.heap "java/util/ImmutableCollections" "EMPTY" "Ljava/lang/Object;" (.ref wM)) (WM : wM < n0) (SD : Sta Z Z.heap "java/util/ArrayList" "DEFAULTCAPACITY_EMPTY_ELEMENTDATA" "[Ljava/lang/Object;" (.ref wD)) (VD : Arv Z Z.heap wD kD (.object "java/lang/Object") 0 [] .null) (D0 : wD < n0) (M : own_Mir Z "[Ljava/lang/Object;" mr) :
    Go p e below (T0.setTop (mkF m 10 #[.val (.int cnt), .val (.int fl), .val (.long r1), .second, .val (.long r2), .second, .val (.long r3), .second, .val (.int (2 : Int32)), .unset, .unset, .unset, .unset, .unset, .unset, .unset, .unset, .unset, .unset, .unset, .unset] [])) (fun oo' U2' => ∃ vv' LL', oo' = .returned vv' ∧ (Q_rm0 Z cnt fl r1 r2 r3 wT wA wE wM wD kD mr h0 n0) vv' U2'.heap LL' ∧ ReturnedEndW s oo' U2' LL' room_1.cells room_1.slots) := by
  have wd := @own_wd _ _ hw
  have X0 : Stand p l e room_1 (s.setVm s.vm) m args below meth c T0 locs 0 0 := X0
  have hS : s.Since s.vm 0 := (State.WarmedH.refl s).since 0
  have WM' := own_nlt WM
  have D0' := own_nlt D0
  obtain ⟨T102, h102, X102, e102, E102, A102, D102, -, st102⟩ := newO X0 hx hZ hown (wd 1 rfl) (wd 2 rfl) (wd 3 rfl) e0 (g := (mkF m 10 #[.val (.int cnt), .val (.int fl), .val (.long r1), .second, .val (.long r2), .second, .val (.long r3), .second, .val (.int (2 : Int32)), .unset, .unset, .unset, .unset, .unset, .unset, .unset, .unset, .unset, .unset, .unset, .unset] [])) rfl (hb hby at_10) (by decide) (by decide)
  obtain ⟨b102, g102⟩ : ∃ z, z = h0.size := ⟨_, rfl⟩
  rw [← g102] at A102 D102 st102
  have hi102 := own_nlt A102.lt
  have sz102 := E102.1
  have F102_algorithm : Fld Z h102 b102 "com/example/wombat/wombat/rules/RateLimit" "algorithm" "Lcom/example/wombat/wombat/rules/Algorithm;" .null := D102 (Or.inr (wd 24 rfl)) (ty := (.object "com/example/wombat/wombat/rules/Algorithm")) (by decide)
  have F102_unit : Fld Z h102 b102 "com/example/wombat/wombat/rules/RateLimit" "unit" "Lcom/example/wombat/wombat/rules/Unit;" .null := D102 (Or.inr (wd 26 rfl)) (ty := (.object "com/example/wombat/wombat/rules/Unit")) (by decide)
  have F102_requestsPerUnit : Fld Z h102 b102 "com/example/wombat/wombat/rules/RateLimit" "requestsPerUnit" "J" (.long (0 : Int64)) := D102 (Or.inr (wd 28 rfl)) (ty := .long) (by decide)
  have F102_bucketSize : Fld Z h102 b102 "com/example/wombat/wombat/rules/RateLimit" "bucketSize" "J" (.long (0 : Int64)) := D102 (Or.inr (wd 30 rfl)) (ty := .long) (by decide)
  have F102_storeTimeout : Fld Z h102 b102 "com/example/wombat/wombat/rules/RateLimit" "storeTimeout" "Ljava/time/Duration;" .null := D102 (Or.inr (wd 32 rfl)) (ty := (.object "java/time/Duration")) (by decide)
  have F102_onStoreFailure : Fld Z h102 b102 "com/example/wombat/wombat/rules/RateLimit" "onStoreFailure" "Lcom/example/wombat/wombat/rules/OnStoreFailure;" .null := D102 (Or.inr (wd 34 rfl)) (ty := (.object "com/example/wombat/wombat/rules/OnStoreFailure")) (by decide)
  refine go_of (B := (T102.setTop (mkF m 13 #[.val (.int cnt), .val (.int fl), .val (.long r1), .second, .val (.long r2), .second, .val (.long r3), .second, .val (.int (2 : Int32)), .unset, .unset, .unset, .unset, .unset, .unset, .unset, .unset, .unset, .unset, .unset, .unset] [(.ref b102)]))) (st102) ?_
  refine go_of (B := (T102.setTop (mkF m 18 #[.val (.int cnt), .val (.int fl), .val (.long r1), .second, .val (.long r2), .second, .val (.long r3), .second, .val (.int (2 : Int32)), .unset, .unset, .unset, .unset, .unset, .unset, .unset, .unset, .unset, .unset, .unset, .unset] [(.long r1), (.long r1), .null, .null, (.ref b102), (.ref b102)]))) (fun _ kk => XS.dup X102.here hx rfl (hb hby at_13) rfl rfl (XS.aconstNull X102.here hx rfl (hb hby at_14) (XS.aconstNull X102.here hx rfl (hb hby at_15) (XS.lloadN X102.here hx rfl (hb hby at_16) rfl (XS.lloadN X102.here hx rfl (hb hby at_17) rfl kk))))) ?_
  have cf_103 := (O.ext E102)
  obtain ⟨_, _, ⟨T104, L104, k104, n104⟩, -, X104, ⟨Lc104, hQ104, l104, y104, z104⟩, st104⟩ := X102.specialBack hx (y := MN5) rfl hown (mvT hZ (wd 4 rfl)) (mvT hZ (wd 5 rfl)) (mvT hZ (wd 6 rfl)) (by decide) (backOf (W := 1) (rl4 l Z a0 hw [] b102 r1 r1 _ _ _ _ _ _ wT wA h102 n0 (by omega) cf_103 ST SA A102 F102_algorithm F102_unit F102_requestsPerUnit F102_bucketSize F102_storeTimeout F102_onStoreFailure (by first | omega | exact own_ne (by omega) | exact own_le (by omega))) hZ (wd 6 rfl) (wd 3 rfl) (by decide) (by decide)) (g := (mkF m 18 #[.val (.int cnt), .val (.int fl), .val (.long r1), .second, .val (.long r2), .second, .val (.long r3), .second, .val (.int (2 : Int32)), .unset, .unset, .unset, .unset, .unset, .unset, .unset, .unset, .unset, .unset, .unset, .unset] [(.long r1), (.long r1), .null, .null, (.ref b102), (.ref b102)])) rfl (by rw [hml]; rfl) (Steps.refl _) (a := b102) (argsL := [.null, .null, (.long r1), (.long r1)]) (rest := [(.ref b102)]) (lenOf pd__Lcom_example_wombat_wombat_rules_Algorithm_Lcom_example_wombat_wombat_rules_Unit_JJ_V rfl) rfl (Nat.le_of_eq rfl) (hb hby at_18) (fun _ _ => ⟨rfl, e102, (by decide : 1 + 0 ≤ _), (by decide : 6 + 0 ≤ _)⟩)
  dsimp only [Pt.U, Pt.locs, Pt.cells, Pt.slots] at X104 l104 y104 z104 st104 hQ104
  subst l104 y104 z104
  obtain ⟨rfl, N104q, K104, A104⟩ := hQ104
  have N104 := Fr.app N0 N104q
  have sz104 := K104.1
  refine go_tr (B := (T104.setTop (mkF m 21 #[.val (.int cnt), .val (.int fl), .val (.long r1), .second, .val (.long r2), .second, .val (.long r3), .second, .val (.int (2 : Int32)), .unset, .unset, .unset, .unset, .unset, .unset, .unset, .unset, .unset, .unset, .unset, .unset] [(.ref b102)]))) (st104) ?_
  refine go_of (B := (T104.setTop (mkF m 23 #[.val (.int cnt), .val (.int fl), .val (.long r1), .second, .val (.long r2), .second, .val (.long r3), .second, .val (.int (2 : Int32)), .val (.ref b102), .unset, .unset, .unset, .unset, .unset, .unset, .unset, .unset, .unset, .unset, .unset] []))) (fun _ kk => XS.astore X104.here hx rfl (hb hby at_21) rfl rfl rfl kk) ?_
  obtain ⟨T105, h105, X105, e105, E105, A105, D105, -, st105⟩ := newO X104 hx hZ hown (wd 1 rfl) (wd 2 rfl) (wd 3 rfl) rfl (g := (mkF m 23 #[.val (.int cnt), .val (.int fl), .val (.long r1), .second, .val (.long r2), .second, .val (.long r3), .second, .val (.int (2 : Int32)), .val (.ref b102), .unset, .unset, .unset, .unset, .unset, .unset, .unset, .unset, .unset, .unset, .unset] [])) rfl (hb hby at_23) (by decide) (by decide)
  obtain ⟨b105, g105⟩ : ∃ z, z = T104.heap.size := ⟨_, rfl⟩
  rw [← g105] at A105 D105 st105
  have hi105 := own_nlt A105.lt
  have sz105 := E105.1
  have F105_algorithm : Fld Z h105 b105 "com/example/wombat/wombat/rules/RateLimit" "algorithm" "Lcom/example/wombat/wombat/rules/Algorithm;" .null := D105 (Or.inr (wd 24 rfl)) (ty := (.object "com/example/wombat/wombat/rules/Algorithm")) (by decide)
  have F105_unit : Fld Z h105 b105 "com/example/wombat/wombat/rules/RateLimit" "unit" "Lcom/example/wombat/wombat/rules/Unit;" .null := D105 (Or.inr (wd 26 rfl)) (ty := (.object "com/example/wombat/wombat/rules/Unit")) (by decide)
  have F105_requestsPerUnit : Fld Z h105 b105 "com/example/wombat/wombat/rules/RateLimit" "requestsPerUnit" "J" (.long (0 : Int64)) := D105 (Or.inr (wd 28 rfl)) (ty := .long) (by decide)
  have F105_bucketSize : Fld Z h105 b105 "com/example/wombat/wombat/rules/RateLimit" "bucketSize" "J" (.long (0 : Int64)) := D105 (Or.inr (wd 30 rfl)) (ty := .long) (by decide)
  have F105_storeTimeout : Fld Z h105 b105 "com/example/wombat/wombat/rules/RateLimit" "storeTimeout" "Ljava/time/Duration;" .null := D105 (Or.inr (wd 32 rfl)) (ty := (.object "java/time/Duration")) (by decide)
  have F105_onStoreFailure : Fld Z h105 b105 "com/example/wombat/wombat/rules/RateLimit" "onStoreFailure" "Lcom/example/wombat/wombat/rules/OnStoreFailure;" .null := D105 (Or.inr (wd 34 rfl)) (ty := (.object "com/example/wombat/wombat/rules/OnStoreFailure")) (by decide)
  refine go_of (B := (T105.setTop (mkF m 26 #[.val (.int cnt), .val (.int fl), .val (.long r1), .second, .val (.long r2), .second, .val (.long r3), .second, .val (.int (2 : Int32)), .val (.ref b102), .unset, .unset, .unset, .unset, .unset, .unset, .unset, .unset, .unset, .unset, .unset] [(.ref b105)]))) (st105) ?_
  refine go_of (B := (T105.setTop (mkF m 33 #[.val (.int cnt), .val (.int fl), .val (.long r1), .second, .val (.long r2), .second, .val (.long r3), .second, .val (.int (2 : Int32)), .val (.ref b102), .unset, .unset, .unset, .unset, .unset, .unset, .unset, .unset, .unset, .unset, .unset] [(.long r2), (.long r2), .null, .null, (.ref b105), (.ref b105)]))) (fun _ kk => XS.dup X105.here hx rfl (hb hby at_26) rfl rfl (XS.aconstNull X105.here hx rfl (hb hby at_27) (XS.aconstNull X105.here hx rfl (hb hby at_28) (XS.lload X105.here hx rfl (hb hby at_29) rfl (XS.lload X105.here hx rfl (hb hby at_31) rfl kk))))) ?_
  have cf_106 := ((cf_103.keep K104 (allS (by first | omega | exact own_ne (by omega) | exact own_le (by omega)) all0)).ext E105)
  obtain ⟨_, _, ⟨T107, L107, k107, n107⟩, -, X107, ⟨Lc107, hQ107, l107, y107, z107⟩, st107⟩ := X105.specialBack hx (y := MN5) rfl hown (mvT hZ (wd 4 rfl)) (mvT hZ (wd 5 rfl)) (mvT hZ (wd 6 rfl)) (by decide) (backOf (W := 1) (rl4 l Z a0 hw [] b105 r2 r2 _ _ _ _ _ _ wT wA h105 n0 (by omega) cf_106 ST SA A105 F105_algorithm F105_unit F105_requestsPerUnit F105_bucketSize F105_storeTimeout F105_onStoreFailure (by first | omega | exact own_ne (by omega) | exact own_le (by omega))) hZ (wd 6 rfl) (wd 3 rfl) (by decide) (by decide)) (g := (mkF m 33 #[.val (.int cnt), .val (.int fl), .val (.long r1), .second, .val (.long r2), .second, .val (.long r3), .second, .val (.int (2 : Int32)), .val (.ref b102), .unset, .unset, .unset, .unset, .unset, .unset, .unset, .unset, .unset, .unset, .unset] [(.long r2), (.long r2), .null, .null, (.ref b105), (.ref b105)])) rfl (by rw [hml]; rfl) (Steps.refl _) (a := b105) (argsL := [.null, .null, (.long r2), (.long r2)]) (rest := [(.ref b105)]) (lenOf pd__Lcom_example_wombat_wombat_rules_Algorithm_Lcom_example_wombat_wombat_rules_Unit_JJ_V rfl) rfl (Nat.le_of_eq rfl) (hb hby at_33) (fun _ _ => ⟨rfl, e105, (by decide : 2 + 0 ≤ _), (by decide : 12 + 0 ≤ _)⟩)
  dsimp only [Pt.U, Pt.locs, Pt.cells, Pt.slots] at X107 l107 y107 z107 st107 hQ107
  subst l107 y107 z107
  obtain ⟨rfl, N107q, K107, A107⟩ := hQ107
  have N107 := Fr.app N104 N107q
  have sz107 := K107.1
  refine go_tr (B := (T107.setTop (mkF m 36 #[.val (.int cnt), .val (.int fl), .val (.long r1), .second, .val (.long r2), .second, .val (.long r3), .second, .val (.int (2 : Int32)), .val (.ref b102), .unset, .unset, .unset, .unset, .unset, .unset, .unset, .unset, .unset, .unset, .unset] [(.ref b105)]))) (st107) ?_
  refine go_of (B := (T107.setTop (mkF m 38 #[.val (.int cnt), .val (.int fl), .val (.long r1), .second, .val (.long r2), .second, .val (.long r3), .second, .val (.int (2 : Int32)), .val (.ref b102), .val (.ref b105), .unset, .unset, .unset, .unset, .unset, .unset, .unset, .unset, .unset, .unset] []))) (fun _ kk => XS.astore X107.here hx rfl (hb hby at_36) rfl rfl rfl kk) ?_
  obtain ⟨T108, h108, X108, e108, E108, A108, D108, -, st108⟩ := newO X107 hx hZ hown (wd 1 rfl) (wd 2 rfl) (wd 3 rfl) rfl (g := (mkF m 38 #[.val (.int cnt), .val (.int fl), .val (.long r1), .second, .val (.long r2), .second, .val (.long r3), .second, .val (.int (2 : Int32)), .val (.ref b102), .val (.ref b105), .unset, .unset, .unset, .unset, .unset, .unset, .unset, .unset, .unset, .unset] [])) rfl (hb hby at_38) (by decide) (by decide)
  obtain ⟨b108, g108⟩ : ∃ z, z = T107.heap.size := ⟨_, rfl⟩
  rw [← g108] at A108 D108 st108
  have hi108 := own_nlt A108.lt
  have sz108 := E108.1
  have F108_algorithm : Fld Z h108 b108 "com/example/wombat/wombat/rules/RateLimit" "algorithm" "Lcom/example/wombat/wombat/rules/Algorithm;" .null := D108 (Or.inr (wd 24 rfl)) (ty := (.object "com/example/wombat/wombat/rules/Algorithm")) (by decide)
  have F108_unit : Fld Z h108 b108 "com/example/wombat/wombat/rules/RateLimit" "unit" "Lcom/example/wombat/wombat/rules/Unit;" .null := D108 (Or.inr (wd 26 rfl)) (ty := (.object "com/example/wombat/wombat/rules/Unit")) (by decide)
  have F108_requestsPerUnit : Fld Z h108 b108 "com/example/wombat/wombat/rules/RateLimit" "requestsPerUnit" "J" (.long (0 : Int64)) := D108 (Or.inr (wd 28 rfl)) (ty := .long) (by decide)
  have F108_bucketSize : Fld Z h108 b108 "com/example/wombat/wombat/rules/RateLimit" "bucketSize" "J" (.long (0 : Int64)) := D108 (Or.inr (wd 30 rfl)) (ty := .long) (by decide)
  have F108_storeTimeout : Fld Z h108 b108 "com/example/wombat/wombat/rules/RateLimit" "storeTimeout" "Ljava/time/Duration;" .null := D108 (Or.inr (wd 32 rfl)) (ty := (.object "java/time/Duration")) (by decide)
  have F108_onStoreFailure : Fld Z h108 b108 "com/example/wombat/wombat/rules/RateLimit" "onStoreFailure" "Lcom/example/wombat/wombat/rules/OnStoreFailure;" .null := D108 (Or.inr (wd 34 rfl)) (ty := (.object "com/example/wombat/wombat/rules/OnStoreFailure")) (by decide)
  refine go_of (B := (T108.setTop (mkF m 41 #[.val (.int cnt), .val (.int fl), .val (.long r1), .second, .val (.long r2), .second, .val (.long r3), .second, .val (.int (2 : Int32)), .val (.ref b102), .val (.ref b105), .unset, .unset, .unset, .unset, .unset, .unset, .unset, .unset, .unset, .unset] [(.ref b108)]))) (st108) ?_
  refine go_of (B := (T108.setTop (mkF m 48 #[.val (.int cnt), .val (.int fl), .val (.long r1), .second, .val (.long r2), .second, .val (.long r3), .second, .val (.int (2 : Int32)), .val (.ref b102), .val (.ref b105), .unset, .unset, .unset, .unset, .unset, .unset, .unset, .unset, .unset, .unset] [(.long r3), (.long r3), .null, .null, (.ref b108), (.ref b108)]))) (fun _ kk => XS.dup X108.here hx rfl (hb hby at_41) rfl rfl (XS.aconstNull X108.here hx rfl (hb hby at_42) (XS.aconstNull X108.here hx rfl (hb hby at_43) (XS.lload X108.here hx rfl (hb hby at_44) rfl (XS.lload X108.here hx rfl (hb hby at_46) rfl kk))))) ?_
  have cf_109 := ((cf_106.keep K107 (allS (by first | omega | exact own_ne (by omega) | exact own_le (by omega)) all0)).ext E108)
  obtain ⟨_, _, ⟨T110, L110, k110, n110⟩, -, X110, ⟨Lc110, hQ110, l110, y110, z110⟩, st110⟩ := X108.specialBack hx (y := MN5) rfl hown (mvT hZ (wd 4 rfl)) (mvT hZ (wd 5 rfl)) (mvT hZ (wd 6 rfl)) (by decide) (backOf (W := 1) (rl4 l Z a0 hw [] b108 r3 r3 _ _ _ _ _ _ wT wA h108 n0 (by omega) cf_109 ST SA A108 F108_algorithm F108_unit F108_requestsPerUnit F108_bucketSize F108_storeTimeout F108_onStoreFailure (by first | omega | exact own_ne (by omega) | exact own_le (by omega))) hZ (wd 6 rfl) (wd 3 rfl) (by decide) (by decide)) (g := (mkF m 48 #[.val (.int cnt), .val (.int fl), .val (.long r1), .second, .val (.long r2), .second, .val (.long r3), .second, .val (.int (2 : Int32)), .val (.ref b102), .val (.ref b105), .unset, .unset, .unset, .unset, .unset, .unset, .unset, .unset, .unset, .unset] [(.long r3), (.long r3), .null, .null, (.ref b108), (.ref b108)])) rfl (by rw [hml]; rfl) (Steps.refl _) (a := b108) (argsL := [.null, .null, (.long r3), (.long r3)]) (rest := [(.ref b108)]) (lenOf pd__Lcom_example_wombat_wombat_rules_Algorithm_Lcom_example_wombat_wombat_rules_Unit_JJ_V rfl) rfl (Nat.le_of_eq rfl) (hb hby at_48) (fun _ _ => ⟨rfl, e108, (by decide : 3 + 0 ≤ _), (by decide : 18 + 0 ≤ _)⟩)
  dsimp only [Pt.U, Pt.locs, Pt.cells, Pt.slots] at X110 l110 y110 z110 st110 hQ110
  subst l110 y110 z110
  obtain ⟨rfl, N110q, K110, A110⟩ := hQ110
  have N110 := Fr.app N107 N110q
  have sz110 := K110.1
  refine go_tr (B := (T110.setTop (mkF m 51 #[.val (.int cnt), .val (.int fl), .val (.long r1), .second, .val (.long r2), .second, .val (.long r3), .second, .val (.int (2 : Int32)), .val (.ref b102), .val (.ref b105), .unset, .unset, .unset, .unset, .unset, .unset, .unset, .unset, .unset, .unset] [(.ref b108)]))) (st110) ?_
  refine go_of (B := (T110.setTop (mkF m 53 #[.val (.int cnt), .val (.int fl), .val (.long r1), .second, .val (.long r2), .second, .val (.long r3), .second, .val (.int (2 : Int32)), .val (.ref b102), .val (.ref b105), .val (.ref b108), .unset, .unset, .unset, .unset, .unset, .unset, .unset, .unset, .unset] []))) (fun _ kk => XS.astore X110.here hx rfl (hb hby at_51) rfl rfl rfl kk) ?_
  obtain ⟨T111, h111, X111, e111, E111, A111, D111, -, st111⟩ := newO X110 hx hZ hown (wd 35 rfl) (wd 36 rfl) (wd 37 rfl) rfl (g := (mkF m 53 #[.val (.int cnt), .val (.int fl), .val (.long r1), .second, .val (.long r2), .second, .val (.long r3), .second, .val (.int (2 : Int32)), .val (.ref b102), .val (.ref b105), .val (.ref b108), .unset, .unset, .unset, .unset, .unset, .unset, .unset, .unset, .unset] [])) rfl (hb hby at_53) (by decide) (by decide)
  obtain ⟨b111, g111⟩ : ∃ z, z = T110.heap.size := ⟨_, rfl⟩
  rw [← g111] at A111 D111 st111
  have hi111 := own_nlt A111.lt
  have sz111 := E111.1
  have F111_key : Fld Z h111 b111 "com/example/wombat/wombat/rules/Descriptor" "key" "Ljava/lang/String;" .null := D111 (Or.inr (wd 83 rfl)) (ty := (.object "java/lang/String")) (by decide)
  have F111_value : Fld Z h111 b111 "com/example/wombat/wombat/rules/Descriptor" "value" "Ljava/lang/String;" .null := D111 (Or.inr (wd 85 rfl)) (ty := (.object "java/lang/String")) (by decide)
  have F111_rateLimit : Fld Z h111 b111 "com/example/wombat/wombat/rules/Descriptor" "rateLimit" "Lcom/example/wombat/wombat/rules/RateLimit;" .null := D111 (Or.inr (wd 87 rfl)) (ty := (.object "com/example/wombat/wombat/rules/RateLimit")) (by decide)
  have F111_descriptors : Fld Z h111 b111 "com/example/wombat/wombat/rules/Descriptor" "descriptors" "Ljava/util/List;" .null := D111 (Or.inr (wd 89 rfl)) (ty := (.object "java/util/List")) (by decide)
  refine go_of (B := (T111.setTop (mkF m 56 #[.val (.int cnt), .val (.int fl), .val (.long r1), .second, .val (.long r2), .second, .val (.long r3), .second, .val (.int (2 : Int32)), .val (.ref b102), .val (.ref b105), .val (.ref b108), .unset, .unset, .unset, .unset, .unset, .unset, .unset, .unset, .unset] [(.ref b111)]))) (st111) ?_
  refine go_of (B := (T111.setTop (mkF m 57 #[.val (.int cnt), .val (.int fl), .val (.long r1), .second, .val (.long r2), .second, .val (.long r3), .second, .val (.int (2 : Int32)), .val (.ref b102), .val (.ref b105), .val (.ref b108), .unset, .unset, .unset, .unset, .unset, .unset, .unset, .unset, .unset] [(.ref b111), (.ref b111)]))) (fun _ kk => XS.dup X111.here hx rfl (hb hby at_56) rfl rfl kk) ?_
  obtain ⟨b112, T112, h112, k112, X112, e112, E112, hS, hk112, hZ, hown, st112⟩ := ldcS X111 hx hZ hown (wd 38 rfl) (own_wS hw) e111 hS (by first | omega | exact own_ne (by omega) | exact own_le (by omega)) (g := (mkF m 57 #[.val (.int cnt), .val (.int fl), .val (.long r1), .second, .val (.long r2), .second, .val (.long r3), .second, .val (.int (2 : Int32)), .val (.ref b102), .val (.ref b105), .val (.ref b108), .unset, .unset, .unset, .unset, .unset, .unset, .unset, .unset, .unset] [(.ref b111), (.ref b111)])) rfl (hb hby at_57) (n := 4) (by decide) (by decide) (by decide) (by decide)
  have sz112 := E112.1
  refine go_of (B := (T112.setTop (mkF m 59 #[.val (.int cnt), .val (.int fl), .val (.long r1), .second, .val (.long r2), .second, .val (.long r3), .second, .val (.int (2 : Int32)), .val (.ref b102), .val (.ref b105), .val (.ref b108), .unset, .unset, .unset, .unset, .unset, .unset, .unset, .unset, .unset] [(.ref b112), (.ref b111), (.ref b111)]))) (st112) ?_
  refine go_of (B := (T112.setTop (mkF m 68 #[.val (.int cnt), .val (.int fl), .val (.long r1), .second, .val (.long r2), .second, .val (.long r3), .second, .val (.int (2 : Int32)), .val (.ref b102), .val (.ref b105), .val (.ref b108), .unset, .unset, .unset, .unset, .unset, .unset, .unset, .unset, .unset] [(.int (fl &&& (1 : Int32))), (.ref b112), (.ref b111), (.ref b111)]))) (fun _ kk => XS.iload X112.here hx rfl (hb hby at_59) rfl (XS.iconst X112.here hx rfl (hb hby at_61) (XS.icmpNo X112.here hx rfl (hb hby at_62) rfl (feq (by decide : ¬ ((2 : Int32) = (1 : Int32)))).1 (XS.iloadN X112.here hx rfl (hb hby at_65) rfl (XS.iconst X112.here hx rfl (hb hby at_66) (XS.iand X112.here hx rfl (hb hby at_67) rfl kk)))))) ?_
  by_cases hcc113 : (fl &&& (1 : Int32)) = (0 : Int32)
  · refine go_of (B := (T112.setTop (mkF m 77 #[.val (.int cnt), .val (.int fl), .val (.long r1), .second, .val (.long r2), .second, .val (.long r3), .second, .val (.int (2 : Int32)), .val (.ref b102), .val (.ref b105), .val (.ref b108), .unset, .unset, .unset, .unset, .unset, .unset, .unset, .unset, .unset] [.null, (.ref b112), (.ref b111), (.ref b111)]))) (fun _ kk => XS.ifYes X112.here hx rfl (pc0 := 68) (pc' := 76) rfl (hb hby at_68) rfl ((if0 _ _).trans (teq hcc113).1) (by decide) (by decide) (XS.aconstNull X112.here hx rfl (hb hby at_76) kk)) ?_
    have cf_114 := (((cf_109.keep K110 (allS (by first | omega | exact own_ne (by omega) | exact own_le (by omega)) all0)).ext E111).ext E112)
    have cf_115 := (A111.ext E112)
    have cf_116 := (F111_key.ext E112)
    have cf_117 := (F111_value.ext E112)
    have cf_118 := (F111_rateLimit.ext E112)
    have cf_119 := (F111_descriptors.ext E112)
    obtain ⟨_, _, ⟨T120, L120, k120, n120⟩, -, X120', hS120', gr120, ⟨Lc120, hQ120, l120, y120, z120⟩, st120⟩ := X112.specialBackS hx (y := MN0) rfl hown (mvT hZ (wd 46 rfl)) (mvT hZ (wd 47 rfl)) (mvT hZ (wd 48 rfl)) (by decide) (backOfS (W := 1) (ds2n l Z a0 hw [] b111 b112 wE _ _ _ _ h112 n0 (by omega) cf_114 SE EE FE cf_115 cf_116 cf_117 cf_118 cf_119 (by first | omega | exact own_ne (by omega) | exact own_le (by omega))) hZ (wd 48 rfl) (wd 37 rfl) (by decide) (by decide)) (g := (mkF m 77 #[.val (.int cnt), .val (.int fl), .val (.long r1), .second, .val (.long r2), .second, .val (.long r3), .second, .val (.int (2 : Int32)), .val (.ref b102), .val (.ref b105), .val (.ref b108), .unset, .unset, .unset, .unset, .unset, .unset, .unset, .unset, .unset] [.null, (.ref b112), (.ref b111), (.ref b111)])) rfl (by rw [hml]; rfl) (Steps.refl _) (a := b111) (argsL := [(.ref b112), .null]) (rest := [(.ref b111)]) (lenOf pd__Ljava_lang_String_Lcom_example_wombat_wombat_rules_RateLimit__V rfl) rfl (Nat.le_of_eq rfl) (hb hby at_77) (fun _ _ => ⟨rfl, e112, (by decide : 6 + 2 ≤ _), (by decide : 30 + 16 ≤ _)⟩)
    dsimp only [Pt.U, Pt.locs, Pt.cells, Pt.slots] at X120' hS120' gr120 l120 y120 z120 st120 hQ120
    subst l120 y120 z120
    have X120 : Stand _ _ _ _ (s.setVm T120.vm) _ _ _ _ _ T120 _ _ _ := X120'
    have hS : s.Since T120.vm T120.heap.size := foldS hS (by rw [e112]; omega) hS120' gr120
    have hZ : Z.Warmed39 (s.setVm T120.vm).vm := State.Warmed39.trans (t := s.setVm T112.vm) hZ hS120'.1
    have hown : (s.setVm T120.vm).vm.findClass "com/example/wombat/wombat/rules/LimitRateLimitPinLaw" = some m.cls := by rw [show (s.setVm T120.vm).vm = T120.vm from rfl, hS120'.1.alike.findClass]; exact hown
    obtain ⟨rfl, N120q, K120, A120⟩ := hQ120
    have N120 := Fr.app N110 N120q
    have sz120 := K120.1
    refine go_tr (B := (T120.setTop (mkF m 80 #[.val (.int cnt), .val (.int fl), .val (.long r1), .second, .val (.long r2), .second, .val (.long r3), .second, .val (.int (2 : Int32)), .val (.ref b102), .val (.ref b105), .val (.ref b108), .unset, .unset, .unset, .unset, .unset, .unset, .unset, .unset, .unset] [(.ref b111)]))) (st120) ?_
    refine go_of (B := (T120.setTop (mkF m 82 #[.val (.int cnt), .val (.int fl), .val (.long r1), .second, .val (.long r2), .second, .val (.long r3), .second, .val (.int (2 : Int32)), .val (.ref b102), .val (.ref b105), .val (.ref b108), .val (.ref b111), .unset, .unset, .unset, .unset, .unset, .unset, .unset, .unset] []))) (fun _ kk => XS.astore X120.here hx rfl (hb hby at_80) rfl rfl rfl kk) ?_
    obtain ⟨T121, h121, X121, e121, E121, A121, D121, -, st121⟩ := newO X120 hx hZ hown (wd 35 rfl) (wd 36 rfl) (wd 37 rfl) rfl (g := (mkF m 82 #[.val (.int cnt), .val (.int fl), .val (.long r1), .second, .val (.long r2), .second, .val (.long r3), .second, .val (.int (2 : Int32)), .val (.ref b102), .val (.ref b105), .val (.ref b108), .val (.ref b111), .unset, .unset, .unset, .unset, .unset, .unset, .unset, .unset] [])) rfl (hb hby at_82) (by decide) (by decide)
    obtain ⟨b121, g121⟩ : ∃ z, z = T120.heap.size := ⟨_, rfl⟩
    rw [← g121] at A121 D121 st121
    have hi121 := own_nlt A121.lt
    have sz121 := E121.1
    have F121_key : Fld Z h121 b121 "com/example/wombat/wombat/rules/Descriptor" "key" "Ljava/lang/String;" .null := D121 (Or.inr (wd 83 rfl)) (ty := (.object "java/lang/String")) (by decide)
    have F121_value : Fld Z h121 b121 "com/example/wombat/wombat/rules/Descriptor" "value" "Ljava/lang/String;" .null := D121 (Or.inr (wd 85 rfl)) (ty := (.object "java/lang/String")) (by decide)
    have F121_rateLimit : Fld Z h121 b121 "com/example/wombat/wombat/rules/Descriptor" "rateLimit" "Lcom/example/wombat/wombat/rules/RateLimit;" .null := D121 (Or.inr (wd 87 rfl)) (ty := (.object "com/example/wombat/wombat/rules/RateLimit")) (by decide)
    have F121_descriptors : Fld Z h121 b121 "com/example/wombat/wombat/rules/Descriptor" "descriptors" "Ljava/util/List;" .null := D121 (Or.inr (wd 89 rfl)) (ty := (.object "java/util/List")) (by decide)
    refine go_of (B := (T121.setTop (mkF m 85 #[.val (.int cnt), .val (.int fl), .val (.long r1), .second, .val (.long r2), .second, .val (.long r3), .second, .val (.int (2 : Int32)), .val (.ref b102), .val (.ref b105), .val (.ref b108), .val (.ref b111), .unset, .unset, .unset, .unset, .unset, .unset, .unset, .unset] [(.ref b121)]))) (st121) ?_
    refine go_of (B := (T121.setTop (mkF m 86 #[.val (.int cnt), .val (.int fl), .val (.long r1), .second, .val (.long r2), .second, .val (.long r3), .second, .val (.int (2 : Int32)), .val (.ref b102), .val (.ref b105), .val (.ref b108), .val (.ref b111), .unset, .unset, .unset, .unset, .unset, .unset, .unset, .unset] [(.ref b121), (.ref b121)]))) (fun _ kk => XS.dup X121.here hx rfl (hb hby at_85) rfl rfl kk) ?_
    obtain ⟨b122, T122, h122, k122, X122, e122, E122, hS, hk122, hZ, hown, st122⟩ := ldcS X121 hx hZ hown (wd 90 rfl) (own_wS hw) e121 hS (by first | omega | exact own_ne (by omega) | exact own_le (by omega)) (g := (mkF m 86 #[.val (.int cnt), .val (.int fl), .val (.long r1), .second, .val (.long r2), .second, .val (.long r3), .second, .val (.int (2 : Int32)), .val (.ref b102), .val (.ref b105), .val (.ref b108), .val (.ref b111), .unset, .unset, .unset, .unset, .unset, .unset, .unset, .unset] [(.ref b121), (.ref b121)])) rfl (hb hby at_86) (n := 4) (by decide) (by decide) (by decide) (by decide)
    have sz122 := E122.1
    refine go_of (B := (T122.setTop (mkF m 88 #[.val (.int cnt), .val (.int fl), .val (.long r1), .second, .val (.long r2), .second, .val (.long r3), .second, .val (.int (2 : Int32)), .val (.ref b102), .val (.ref b105), .val (.ref b108), .val (.ref b111), .unset, .unset, .unset, .unset, .unset, .unset, .unset, .unset] [(.ref b122), (.ref b121), (.ref b121)]))) (st122) ?_
    refine go_of (B := (T122.setTop (mkF m 106 #[.val (.int cnt), .val (.int fl), .val (.long r1), .second, .val (.long r2), .second, .val (.long r3), .second, .val (.int (2 : Int32)), .val (.ref b102), .val (.ref b105), .val (.ref b108), .val (.ref b111), .unset, .unset, .unset, .unset, .unset, .unset, .unset, .unset] [(.ref b105), (.ref b122), (.ref b121), (.ref b121)]))) (fun _ kk => XS.iload X122.here hx rfl (hb hby at_88) rfl (XS.iconst X122.here hx rfl (hb hby at_90) (XS.icmpYes X122.here hx rfl (pc0 := 91) (pc' := 100) rfl (hb hby at_91) rfl (teq (by decide : (2 : Int32) = (2 : Int32))).1 (by decide) (by decide) (XS.aload X122.here hx rfl (hb hby at_100) rfl rfl (XS.goto X122.here hx rfl (pc0 := 102) (pc' := 106) rfl (hb hby at_102) (by decide) (by decide) kk))))) ?_
    have cf_123 := (((cf_114.keep K120 (allS (by first | omega | exact own_ne (by omega) | exact own_le (by omega)) all0)).ext E121).ext E122)
    have cf_124 := (A121.ext E122)
    have cf_125 := (F121_key.ext E122)
    have cf_126 := (F121_value.ext E122)
    have cf_127 := (F121_rateLimit.ext E122)
    have cf_128 := (F121_descriptors.ext E122)
    obtain ⟨_, _, ⟨T129, L129, k129, n129⟩, -, X129', hS129', gr129, ⟨Lc129, hQ129, l129, y129, z129⟩, st129⟩ := X122.specialBackS hx (y := MN0) rfl hown (mvT hZ (wd 46 rfl)) (mvT hZ (wd 47 rfl)) (mvT hZ (wd 48 rfl)) (by decide) (backOfS (W := 1) (ds2r l Z a0 hw [] b121 b122 b105 wE _ _ _ _ h122 n0 (by omega) cf_123 SE EE FE cf_124 cf_125 cf_126 cf_127 cf_128 (by first | omega | exact own_ne (by omega) | exact own_le (by omega))) hZ (wd 48 rfl) (wd 37 rfl) (by decide) (by decide)) (g := (mkF m 106 #[.val (.int cnt), .val (.int fl), .val (.long r1), .second, .val (.long r2), .second, .val (.long r3), .second, .val (.int (2 : Int32)), .val (.ref b102), .val (.ref b105), .val (.ref b108), .val (.ref b111), .unset, .unset, .unset, .unset, .unset, .unset, .unset, .unset] [(.ref b105), (.ref b122), (.ref b121), (.ref b121)])) rfl (by rw [hml]; rfl) (Steps.refl _) (a := b121) (argsL := [(.ref b122), (.ref b105)]) (rest := [(.ref b121)]) (lenOf pd__Ljava_lang_String_Lcom_example_wombat_wombat_rules_RateLimit__V rfl) rfl (Nat.le_of_eq rfl) (hb hby at_106) (fun _ _ => ⟨rfl, e122, (by decide : 11 + 2 ≤ _), (by decide : 58 + 16 ≤ _)⟩)
    dsimp only [Pt.U, Pt.locs, Pt.cells, Pt.slots] at X129' hS129' gr129 l129 y129 z129 st129 hQ129
    subst l129 y129 z129
    have X129 : Stand _ _ _ _ (s.setVm T129.vm) _ _ _ _ _ T129 _ _ _ := X129'
    have hS : s.Since T129.vm T129.heap.size := foldS hS (by rw [e122]; omega) hS129' gr129
    have hZ : Z.Warmed39 (s.setVm T129.vm).vm := State.Warmed39.trans (t := s.setVm T122.vm) hZ hS129'.1
    have hown : (s.setVm T129.vm).vm.findClass "com/example/wombat/wombat/rules/LimitRateLimitPinLaw" = some m.cls := by rw [show (s.setVm T129.vm).vm = T129.vm from rfl, hS129'.1.alike.findClass]; exact hown
    obtain ⟨rfl, N129q, K129, A129⟩ := hQ129
    have N129 := Fr.app N120 N129q
    have sz129 := K129.1
    refine go_tr (B := (T129.setTop (mkF m 109 #[.val (.int cnt), .val (.int fl), .val (.long r1), .second, .val (.long r2), .second, .val (.long r3), .second, .val (.int (2 : Int32)), .val (.ref b102), .val (.ref b105), .val (.ref b108), .val (.ref b111), .unset, .unset, .unset, .unset, .unset, .unset, .unset, .unset] [(.ref b121)]))) (st129) ?_
    refine go_of (B := (T129.setTop (mkF m 111 #[.val (.int cnt), .val (.int fl), .val (.long r1), .second, .val (.long r2), .second, .val (.long r3), .second, .val (.int (2 : Int32)), .val (.ref b102), .val (.ref b105), .val (.ref b108), .val (.ref b111), .val (.ref b121), .unset, .unset, .unset, .unset, .unset, .unset, .unset] []))) (fun _ kk => XS.astore X129.here hx rfl (hb hby at_109) rfl rfl rfl kk) ?_
    obtain ⟨T130, h130, X130, e130, E130, A130, D130, -, st130⟩ := newO X129 hx hZ hown (wd 35 rfl) (wd 36 rfl) (wd 37 rfl) rfl (g := (mkF m 111 #[.val (.int cnt), .val (.int fl), .val (.long r1), .second, .val (.long r2), .second, .val (.long r3), .second, .val (.int (2 : Int32)), .val (.ref b102), .val (.ref b105), .val (.ref b108), .val (.ref b111), .val (.ref b121), .unset, .unset, .unset, .unset, .unset, .unset, .unset] [])) rfl (hb hby at_111) (by decide) (by decide)
    obtain ⟨b130, g130⟩ : ∃ z, z = T129.heap.size := ⟨_, rfl⟩
    rw [← g130] at A130 D130 st130
    have hi130 := own_nlt A130.lt
    have sz130 := E130.1
    have F130_key : Fld Z h130 b130 "com/example/wombat/wombat/rules/Descriptor" "key" "Ljava/lang/String;" .null := D130 (Or.inr (wd 83 rfl)) (ty := (.object "java/lang/String")) (by decide)
    have F130_value : Fld Z h130 b130 "com/example/wombat/wombat/rules/Descriptor" "value" "Ljava/lang/String;" .null := D130 (Or.inr (wd 85 rfl)) (ty := (.object "java/lang/String")) (by decide)
    have F130_rateLimit : Fld Z h130 b130 "com/example/wombat/wombat/rules/Descriptor" "rateLimit" "Lcom/example/wombat/wombat/rules/RateLimit;" .null := D130 (Or.inr (wd 87 rfl)) (ty := (.object "com/example/wombat/wombat/rules/RateLimit")) (by decide)
    have F130_descriptors : Fld Z h130 b130 "com/example/wombat/wombat/rules/Descriptor" "descriptors" "Ljava/util/List;" .null := D130 (Or.inr (wd 89 rfl)) (ty := (.object "java/util/List")) (by decide)
    refine go_of (B := (T130.setTop (mkF m 114 #[.val (.int cnt), .val (.int fl), .val (.long r1), .second, .val (.long r2), .second, .val (.long r3), .second, .val (.int (2 : Int32)), .val (.ref b102), .val (.ref b105), .val (.ref b108), .val (.ref b111), .val (.ref b121), .unset, .unset, .unset, .unset, .unset, .unset, .unset] [(.ref b130)]))) (st130) ?_
    refine go_of (B := (T130.setTop (mkF m 115 #[.val (.int cnt), .val (.int fl), .val (.long r1), .second, .val (.long r2), .second, .val (.long r3), .second, .val (.int (2 : Int32)), .val (.ref b102), .val (.ref b105), .val (.ref b108), .val (.ref b111), .val (.ref b121), .unset, .unset, .unset, .unset, .unset, .unset, .unset] [(.ref b130), (.ref b130)]))) (fun _ kk => XS.dup X130.here hx rfl (hb hby at_114) rfl rfl kk) ?_
    obtain ⟨b131, T131, h131, k131, X131, e131, E131, hS, hk131, hZ, hown, st131⟩ := ldcS X130 hx hZ hown (wd 91 rfl) (own_wS hw) e130 hS (by first | omega | exact own_ne (by omega) | exact own_le (by omega)) (g := (mkF m 115 #[.val (.int cnt), .val (.int fl), .val (.long r1), .second, .val (.long r2), .second, .val (.long r3), .second, .val (.int (2 : Int32)), .val (.ref b102), .val (.ref b105), .val (.ref b108), .val (.ref b111), .val (.ref b121), .unset, .unset, .unset, .unset, .unset, .unset, .unset] [(.ref b130), (.ref b130)])) rfl (hb hby at_115) (n := 4) (by decide) (by decide) (by decide) (by decide)
    have sz131 := E131.1
    refine go_of (B := (T131.setTop (mkF m 117 #[.val (.int cnt), .val (.int fl), .val (.long r1), .second, .val (.long r2), .second, .val (.long r3), .second, .val (.int (2 : Int32)), .val (.ref b102), .val (.ref b105), .val (.ref b108), .val (.ref b111), .val (.ref b121), .unset, .unset, .unset, .unset, .unset, .unset, .unset] [(.ref b131), (.ref b130), (.ref b130)]))) (st131) ?_
    refine go_of (B := (T131.setTop (mkF m 119 #[.val (.int cnt), .val (.int fl), .val (.long r1), .second, .val (.long r2), .second, .val (.long r3), .second, .val (.int (2 : Int32)), .val (.ref b102), .val (.ref b105), .val (.ref b108), .val (.ref b111), .val (.ref b121), .unset, .unset, .unset, .unset, .unset, .unset, .unset] [(.ref b108), (.ref b131), (.ref b130), (.ref b130)]))) (fun _ kk => XS.aload X131.here hx rfl (hb hby at_117) rfl rfl kk) ?_
    have cf_132 := (((cf_123.keep K129 (allS (by first | omega | exact own_ne (by omega) | exact own_le (by omega)) all0)).ext E130).ext E131)
    have cf_133 := (A130.ext E131)
    have cf_134 := (F130_key.ext E131)
    have cf_135 := (F130_value.ext E131)
    have cf_136 := (F130_rateLimit.ext E131)
    have cf_137 := (F130_descriptors.ext E131)
    obtain ⟨_, _, ⟨T138, L138, k138, n138⟩, -, X138', hS138', gr138, ⟨Lc138, hQ138, l138, y138, z138⟩, st138⟩ := X131.specialBackS hx (y := MN0) rfl hown (mvT hZ (wd 46 rfl)) (mvT hZ (wd 47 rfl)) (mvT hZ (wd 48 rfl)) (by decide) (backOfS (W := 1) (ds2r l Z a0 hw [] b130 b131 b108 wE _ _ _ _ h131 n0 (by omega) cf_132 SE EE FE cf_133 cf_134 cf_135 cf_136 cf_137 (by first | omega | exact own_ne (by omega) | exact own_le (by omega))) hZ (wd 48 rfl) (wd 37 rfl) (by decide) (by decide)) (g := (mkF m 119 #[.val (.int cnt), .val (.int fl), .val (.long r1), .second, .val (.long r2), .second, .val (.long r3), .second, .val (.int (2 : Int32)), .val (.ref b102), .val (.ref b105), .val (.ref b108), .val (.ref b111), .val (.ref b121), .unset, .unset, .unset, .unset, .unset, .unset, .unset] [(.ref b108), (.ref b131), (.ref b130), (.ref b130)])) rfl (by rw [hml]; rfl) (Steps.refl _) (a := b130) (argsL := [(.ref b131), (.ref b108)]) (rest := [(.ref b130)]) (lenOf pd__Ljava_lang_String_Lcom_example_wombat_wombat_rules_RateLimit__V rfl) rfl (Nat.le_of_eq rfl) (hb hby at_119) (fun _ _ => ⟨rfl, e131, (by decide : 16 + 2 ≤ _), (by decide : 86 + 16 ≤ _)⟩)
    dsimp only [Pt.U, Pt.locs, Pt.cells, Pt.slots] at X138' hS138' gr138 l138 y138 z138 st138 hQ138
    subst l138 y138 z138
    have X138 : Stand _ _ _ _ (s.setVm T138.vm) _ _ _ _ _ T138 _ _ _ := X138'
    have hS : s.Since T138.vm T138.heap.size := foldS hS (by rw [e131]; omega) hS138' gr138
    have hZ : Z.Warmed39 (s.setVm T138.vm).vm := State.Warmed39.trans (t := s.setVm T131.vm) hZ hS138'.1
    have hown : (s.setVm T138.vm).vm.findClass "com/example/wombat/wombat/rules/LimitRateLimitPinLaw" = some m.cls := by rw [show (s.setVm T138.vm).vm = T138.vm from rfl, hS138'.1.alike.findClass]; exact hown
    obtain ⟨rfl, N138q, K138, A138⟩ := hQ138
    have N138 := Fr.app N129 N138q
    have sz138 := K138.1
    refine go_tr (B := (T138.setTop (mkF m 122 #[.val (.int cnt), .val (.int fl), .val (.long r1), .second, .val (.long r2), .second, .val (.long r3), .second, .val (.int (2 : Int32)), .val (.ref b102), .val (.ref b105), .val (.ref b108), .val (.ref b111), .val (.ref b121), .unset, .unset, .unset, .unset, .unset, .unset, .unset] [(.ref b130)]))) (st138) ?_
    refine go_of (B := (T138.setTop (mkF m 124 #[.val (.int cnt), .val (.int fl), .val (.long r1), .second, .val (.long r2), .second, .val (.long r3), .second, .val (.int (2 : Int32)), .val (.ref b102), .val (.ref b105), .val (.ref b108), .val (.ref b111), .val (.ref b121), .val (.ref b130), .unset, .unset, .unset, .unset, .unset, .unset] []))) (fun _ kk => XS.astore X138.here hx rfl (hb hby at_122) rfl rfl rfl kk) ?_
    obtain ⟨T139, h139, X139, e139, E139, A139, D139, -, st139⟩ := newO X138 hx hZ hown (wd 92 rfl) (wd 93 rfl) (wd 94 rfl) rfl (g := (mkF m 124 #[.val (.int cnt), .val (.int fl), .val (.long r1), .second, .val (.long r2), .second, .val (.long r3), .second, .val (.int (2 : Int32)), .val (.ref b102), .val (.ref b105), .val (.ref b108), .val (.ref b111), .val (.ref b121), .val (.ref b130), .unset, .unset, .unset, .unset, .unset, .unset] [])) rfl (hb hby at_124) (by decide) (by decide)
    obtain ⟨b139, g139⟩ : ∃ z, z = T138.heap.size := ⟨_, rfl⟩
    rw [← g139] at A139 D139 st139
    have hi139 := own_nlt A139.lt
    have sz139 := E139.1
    have F139_modCount : Fld Z h139 b139 "java/util/AbstractList" "modCount" "I" (.int (0 : Int32)) := D139 (Or.inl (wd 112 rfl)) (ty := .int) (by decide)
    have F139_elementData : Fld Z h139 b139 "java/util/ArrayList" "elementData" "[Ljava/lang/Object;" .null := D139 (Or.inl (wd 115 rfl)) (ty := (.array (.object "java/lang/Object"))) (by decide)
    have F139_size : Fld Z h139 b139 "java/util/ArrayList" "size" "I" (.int (0 : Int32)) := D139 (Or.inl (wd 124 rfl)) (ty := .int) (by decide)
    refine go_of (B := (T139.setTop (mkF m 127 #[.val (.int cnt), .val (.int fl), .val (.long r1), .second, .val (.long r2), .second, .val (.long r3), .second, .val (.int (2 : Int32)), .val (.ref b102), .val (.ref b105), .val (.ref b108), .val (.ref b111), .val (.ref b121), .val (.ref b130), .unset, .unset, .unset, .unset, .unset, .unset] [(.ref b139)]))) (st139) ?_
    refine go_of (B := (T139.setTop (mkF m 128 #[.val (.int cnt), .val (.int fl), .val (.long r1), .second, .val (.long r2), .second, .val (.long r3), .second, .val (.int (2 : Int32)), .val (.ref b102), .val (.ref b105), .val (.ref b108), .val (.ref b111), .val (.ref b121), .val (.ref b130), .unset, .unset, .unset, .unset, .unset, .unset] [(.ref b139), (.ref b139)]))) (fun _ kk => XS.dup X139.here hx rfl (hb hby at_127) rfl rfl kk) ?_
    have cf_140 := ((cf_132.keep K138 (allS (by first | omega | exact own_ne (by omega) | exact own_le (by omega)) all0)).ext E139)
    obtain ⟨_, _, ⟨T141, L141, k141, n141⟩, -, X141, ⟨Lc141, hQ141, l141, y141, z141⟩, st141⟩ := X139.specialBack hx (y := MN10) rfl hown (mvT hZ (wd 95 rfl)) (mvT hZ (wd 96 rfl)) (mvT hZ (wd 97 rfl)) (by decide) (backOf (W := 1) (rm11 l Z a0 hw [] b139 _ _ wD h139 n0 (by omega) A139 F139_modCount F139_elementData F139_size (by first | omega | exact own_ne (by omega) | exact own_le (by omega)) cf_140 SD) hZ (wd 97 rfl) (wd 94 rfl) (by decide) (by decide)) (g := (mkF m 128 #[.val (.int cnt), .val (.int fl), .val (.long r1), .second, .val (.long r2), .second, .val (.long r3), .second, .val (.int (2 : Int32)), .val (.ref b102), .val (.ref b105), .val (.ref b108), .val (.ref b111), .val (.ref b121), .val (.ref b130), .unset, .unset, .unset, .unset, .unset, .unset] [(.ref b139), (.ref b139)])) rfl (by rw [hml]; rfl) (Steps.refl _) (a := b139) (argsL := []) (rest := [(.ref b139)]) (lenOf pd___V rfl) rfl (Nat.le_of_eq rfl) (hb hby at_128) (fun _ _ => ⟨rfl, e139, (by decide : 19 + 0 ≤ _), (by decide : 105 + 0 ≤ _)⟩)
    dsimp only [Pt.U, Pt.locs, Pt.cells, Pt.slots] at X141 l141 y141 z141 st141 hQ141
    subst l141 y141 z141
    obtain ⟨rfl, N141q, K141, A141⟩ := hQ141
    have N141 := Fr.app N138 N141q
    have sz141 := K141.1
    refine go_tr (B := (T141.setTop (mkF m 131 #[.val (.int cnt), .val (.int fl), .val (.long r1), .second, .val (.long r2), .second, .val (.long r3), .second, .val (.int (2 : Int32)), .val (.ref b102), .val (.ref b105), .val (.ref b108), .val (.ref b111), .val (.ref b121), .val (.ref b130), .unset, .unset, .unset, .unset, .unset, .unset] [(.ref b139)]))) (st141) ?_
    refine go_of (B := (T141.setTop (mkF m 137 #[.val (.int cnt), .val (.int fl), .val (.long r1), .second, .val (.long r2), .second, .val (.long r3), .second, .val (.int (2 : Int32)), .val (.ref b102), .val (.ref b105), .val (.ref b108), .val (.ref b111), .val (.ref b121), .val (.ref b130), .val (.ref b139), .unset, .unset, .unset, .unset, .unset] [(.ref b111), (.ref b139)]))) (fun _ kk => XS.astore X141.here hx rfl (hb hby at_131) rfl rfl rfl (XS.aload X141.here hx rfl (hb hby at_133) rfl rfl (XS.aload X141.here hx rfl (hb hby at_135) rfl rfl kk))) ?_
    have cf_142 := (cf_140.keep K141 (allS (by first | omega | exact own_ne (by omega) | exact own_le (by omega)) all0))
    have cf_143 := ((((((((A120.1.ext E121).ext E122).keep K129).ext E130).ext E131).keep K138).ext E139).keep K141)
    obtain ⟨cq144, kq144, q144a, q144b, q144c⟩ := isOf hZ rfl A141.1
    obtain ⟨_, _, ⟨T144, L144, k144, n144⟩, -, X144, ⟨Lc144, hQ144, l144, y144, z144⟩, st144⟩ := X141.virtualBack hx (y := MN11) (z := MN11) hown (mvT hZ (wd 116 rfl)) (mvT hZ (wd 117 rfl)) (notFace_of_selects (args := #[]) (mvT hZ (wd 119 rfl))) (mvT hZ (wd 119 rfl)) (mvT hZ (wd 118 rfl)) (by decide) (backOf (W := 0) (add0 l Z a0 hw [] b139 b111 (0 : Int32) wD kD T141.heap n0 (by omega) ⟨A141.1, A141.2.1, A141.2.2.1, A141.2.2.2⟩ (by first | omega | exact own_ne (by omega) | exact own_le (by omega)) cf_142 SD (VD.ext cf_142.2) D0 (Ins.of_exa cf_143 (wd 146 rfl))) hZ (wd 120 rfl) (wd 94 rfl) (by decide) (by decide)) q144a q144c (g := (mkF m 137 #[.val (.int cnt), .val (.int fl), .val (.long r1), .second, .val (.long r2), .second, .val (.long r3), .second, .val (.int (2 : Int32)), .val (.ref b102), .val (.ref b105), .val (.ref b108), .val (.ref b111), .val (.ref b121), .val (.ref b130), .val (.ref b139), .unset, .unset, .unset, .unset, .unset] [(.ref b111), (.ref b139)])) rfl (by rw [hml]; rfl) (Steps.refl _) (argsL := [(.ref b111)]) (rest := []) (lenOf pd__Ljava_lang_Object__Z rfl) rfl (Nat.le_of_eq rfl) (hb hby at_137) (fun _ _ => ⟨rfl, rfl, (by decide : 19 + 1 ≤ _), (by decide : 105 + 10 ≤ _)⟩)
    dsimp only [Pt.U, Pt.locs, Pt.cells, Pt.slots] at X144 l144 y144 z144 st144 hQ144
    subst l144 y144 z144
    obtain ⟨b144, k144, rfl, N144q, lo144, K144, A144, V144, O144, XE144⟩ := hQ144
    have lo144 := own_nle lo144
    have N144 := Fr.app N141 N144q
    have hi144 := own_nlt (V144.lt)
    have sz144 := K144.1
    refine go_tr (B := (T144.setTop (mkF m 140 #[.val (.int cnt), .val (.int fl), .val (.long r1), .second, .val (.long r2), .second, .val (.long r3), .second, .val (.int (2 : Int32)), .val (.ref b102), .val (.ref b105), .val (.ref b108), .val (.ref b111), .val (.ref b121), .val (.ref b130), .val (.ref b139), .unset, .unset, .unset, .unset, .unset] [(.int (1 : Int32))]))) (st144) ?_
    refine go_of (B := (T144.setTop (mkF m 151 #[.val (.int cnt), .val (.int fl), .val (.long r1), .second, .val (.long r2), .second, .val (.long r3), .second, .val (.int (2 : Int32)), .val (.ref b102), .val (.ref b105), .val (.ref b108), .val (.ref b111), .val (.ref b121), .val (.ref b130), .val (.ref b139), .unset, .unset, .unset, .unset, .unset] [(.ref b121), (.ref b139)]))) (fun _ kk => XS.pop X144.here hx rfl (hb hby at_140) rfl rfl (XS.iload X144.here hx rfl (hb hby at_141) rfl (XS.iconst X144.here hx rfl (hb hby at_143) (XS.icmpNo X144.here hx rfl (hb hby at_144) rfl (flt (by decide : ¬ ((2 : Int32) < (2 : Int32)))).1 (XS.aload X144.here hx rfl (hb hby at_147) rfl rfl (XS.aload X144.here hx rfl (hb hby at_149) rfl rfl kk)))))) ?_
    have cf_145 := ((((((A129.1.ext E130).ext E131).keep K138).ext E139).keep K141).keep K144)
    obtain ⟨cq146, kq146, q146a, q146b, q146c⟩ := isOf hZ rfl A144.1
    obtain ⟨_, _, ⟨T146, L146, k146, n146⟩, -, X146, ⟨Lc146, hQ146, l146, y146, z146⟩, st146⟩ := X144.virtualBack hx (y := MN11) (z := MN11) hown (mvT hZ (wd 116 rfl)) (mvT hZ (wd 117 rfl)) (notFace_of_selects (args := #[]) (mvT hZ (wd 119 rfl))) (mvT hZ (wd 119 rfl)) (mvT hZ (wd 118 rfl)) (by decide) (backOf (W := 0) (add1 l Z a0 hw [] b139 b121 b144 ((0 : Int32) + (1 : Int32)) k144 b111 T144.heap n0 (by omega) ⟨A144.1, A144.2.1, A144.2.2.1, A144.2.2.2⟩ (by first | omega | exact own_ne (by omega) | exact own_le (by omega)) (by first | omega | exact own_ne (by omega) | exact own_le (by omega)) V144 O144 (Ins.of_exa cf_145 (wd 146 rfl)) (by first | omega | exact own_ne (by omega) | exact own_le (by omega))) hZ (wd 120 rfl) (wd 94 rfl) (by decide) (by decide)) q146a q146c (g := (mkF m 151 #[.val (.int cnt), .val (.int fl), .val (.long r1), .second, .val (.long r2), .second, .val (.long r3), .second, .val (.int (2 : Int32)), .val (.ref b102), .val (.ref b105), .val (.ref b108), .val (.ref b111), .val (.ref b121), .val (.ref b130), .val (.ref b139), .unset, .unset, .unset, .unset, .unset] [(.ref b121), (.ref b139)])) rfl (by rw [hml]; rfl) (Steps.refl _) (argsL := [(.ref b121)]) (rest := []) (lenOf pd__Ljava_lang_Object__Z rfl) rfl (Nat.le_of_eq rfl) (hb hby at_151) (fun _ _ => ⟨rfl, rfl, (by decide : 20 + 0 ≤ _), (by decide : 115 + 0 ≤ _)⟩)
    dsimp only [Pt.U, Pt.locs, Pt.cells, Pt.slots] at X146 l146 y146 z146 st146 hQ146
    subst l146 y146 z146
    obtain ⟨rfl, N146q, K146, A146, V146⟩ := hQ146
    have N146 := Fr.app N144 N146q
    have sz146 := K146.1
    refine go_tr (B := (T146.setTop (mkF m 154 #[.val (.int cnt), .val (.int fl), .val (.long r1), .second, .val (.long r2), .second, .val (.long r3), .second, .val (.int (2 : Int32)), .val (.ref b102), .val (.ref b105), .val (.ref b108), .val (.ref b111), .val (.ref b121), .val (.ref b130), .val (.ref b139), .unset, .unset, .unset, .unset, .unset] [(.int (1 : Int32))]))) (st146) ?_
    refine go_of (B := (T146.setTop (mkF m 172 #[.val (.int cnt), .val (.int fl), .val (.long r1), .second, .val (.long r2), .second, .val (.long r3), .second, .val (.int (2 : Int32)), .val (.ref b102), .val (.ref b105), .val (.ref b108), .val (.ref b111), .val (.ref b121), .val (.ref b130), .val (.ref b139), .unset, .unset, .unset, .unset, .unset] [(.int (1 : Int32)), (.int (2 : Int32))]))) (fun _ kk => XS.pop X146.here hx rfl (hb hby at_154) rfl rfl (XS.iload X146.here hx rfl (hb hby at_155) rfl (XS.iconst X146.here hx rfl (hb hby at_157) (XS.icmpYes X146.here hx rfl (pc0 := 158) (pc' := 169) rfl (hb hby at_158) rfl (tlt (by decide : (2 : Int32) < (3 : Int32))).1 (by decide) (by decide) (XS.iload X146.here hx rfl (hb hby at_169) rfl (XS.iconst X146.here hx rfl (hb hby at_171) kk)))))) ?_
    refine go_of (B := (T146.setTop (mkF m 193 #[.val (.int cnt), .val (.int fl), .val (.long r1), .second, .val (.long r2), .second, .val (.long r3), .second, .val (.int (2 : Int32)), .val (.ref b102), .val (.ref b105), .val (.ref b108), .val (.ref b111), .val (.ref b121), .val (.ref b130), .val (.ref b139), .unset, .unset, .unset, .unset, .unset] [(.ref b105)]))) (fun _ kk => XS.icmpYes X146.here hx rfl (pc0 := 172) (pc' := 180) rfl (hb hby at_172) rfl (feq (by decide : ¬ ((2 : Int32) = (1 : Int32)))).2 (by decide) (by decide) (XS.iload X146.here hx rfl (hb hby at_180) rfl (XS.iconst X146.here hx rfl (hb hby at_182) (XS.icmpNo X146.here hx rfl (hb hby at_183) rfl (teq (by decide : (2 : Int32) = (2 : Int32))).2 (XS.aload X146.here hx rfl (hb hby at_186) rfl rfl (XS.goto X146.here hx rfl (pc0 := 188) (pc' := 193) rfl (hb hby at_188) (by decide) (by decide) kk)))))) ?_
    refine go_of (B := (T146.setTop (mkF m 208 #[.val (.int cnt), .val (.int fl), .val (.long r1), .second, .val (.long r2), .second, .val (.long r3), .second, .val (.int (2 : Int32)), .val (.ref b102), .val (.ref b105), .val (.ref b108), .val (.ref b111), .val (.ref b121), .val (.ref b130), .val (.ref b139), .val (.ref b105), .unset, .unset, .unset, .unset] [(.int (2 : Int32)), (.int (2 : Int32))]))) (fun _ kk => XS.astore X146.here hx rfl (hb hby at_193) rfl rfl rfl (XS.iload X146.here hx rfl (hb hby at_195) rfl (XS.iconst X146.here hx rfl (hb hby at_197) (XS.icmpYes X146.here hx rfl (pc0 := 198) (pc' := 205) rfl (hb hby at_198) rfl (feq (by decide : ¬ ((2 : Int32) = (1 : Int32)))).2 (by decide) (by decide) (XS.iload X146.here hx rfl (hb hby at_205) rfl (XS.iconst X146.here hx rfl (hb hby at_207) kk)))))) ?_
    refine go_of (B := (T146.setTop (mkF m 220 #[.val (.int cnt), .val (.int fl), .val (.long r1), .second, .val (.long r2), .second, .val (.long r3), .second, .val (.int (2 : Int32)), .val (.ref b102), .val (.ref b105), .val (.ref b108), .val (.ref b111), .val (.ref b121), .val (.ref b130), .val (.ref b139), .val (.ref b105), .val (.long r2), .second, .unset, .unset] []))) (fun _ kk => XS.icmpNo X146.here hx rfl (hb hby at_208) rfl (teq (by decide : (2 : Int32) = (2 : Int32))).2 (XS.lload X146.here hx rfl (hb hby at_211) rfl (XS.goto X146.here hx rfl (pc0 := 213) (pc' := 218) rfl (hb hby at_213) (by decide) (by decide) (XS.lstore X146.here hx rfl (hb hby at_218) rfl rfl kk)))) ?_
    obtain ⟨T147, h147, X147, e147, E147, A147, D147, -, st147⟩ := newO X146 hx hZ hown (wd 147 rfl) (wd 148 rfl) (wd 149 rfl) rfl (g := (mkF m 220 #[.val (.int cnt), .val (.int fl), .val (.long r1), .second, .val (.long r2), .second, .val (.long r3), .second, .val (.int (2 : Int32)), .val (.ref b102), .val (.ref b105), .val (.ref b108), .val (.ref b111), .val (.ref b121), .val (.ref b130), .val (.ref b139), .val (.ref b105), .val (.long r2), .second, .unset, .unset] [])) rfl (hb hby at_220) (by decide) (by decide)
    obtain ⟨b147, g147⟩ : ∃ z, z = T146.heap.size := ⟨_, rfl⟩
    rw [← g147] at A147 D147 st147
    have hi147 := own_nlt A147.lt
    have sz147 := E147.1
    have F147_descriptors : Fld Z h147 b147 "com/example/wombat/wombat/rules/Limit" "descriptors" "Ljava/util/List;" .null := D147 (Or.inr (wd 261 rfl)) (ty := (.object "java/util/List")) (by decide)
    refine go_of (B := (T147.setTop (mkF m 223 #[.val (.int cnt), .val (.int fl), .val (.long r1), .second, .val (.long r2), .second, .val (.long r3), .second, .val (.int (2 : Int32)), .val (.ref b102), .val (.ref b105), .val (.ref b108), .val (.ref b111), .val (.ref b121), .val (.ref b130), .val (.ref b139), .val (.ref b105), .val (.long r2), .second, .unset, .unset] [(.ref b147)]))) (st147) ?_
    refine go_of (B := (T147.setTop (mkF m 226 #[.val (.int cnt), .val (.int fl), .val (.long r1), .second, .val (.long r2), .second, .val (.long r3), .second, .val (.int (2 : Int32)), .val (.ref b102), .val (.ref b105), .val (.ref b108), .val (.ref b111), .val (.ref b121), .val (.ref b130), .val (.ref b139), .val (.ref b105), .val (.long r2), .second, .unset, .unset] [(.ref b139), (.ref b147), (.ref b147)]))) (fun _ kk => XS.dup X147.here hx rfl (hb hby at_223) rfl rfl (XS.aload X147.here hx rfl (hb hby at_224) rfl rfl kk)) ?_
    have cf_148 := (((cf_143.keep K144).keep K146).ext E147)
    have cf_149 := ((cf_145.keep K146).ext E147)
    have cf_150 := (((cf_142.keep K144 (allS (by first | omega | exact own_ne (by omega) | exact own_le (by omega)) all0)).keep K146 (allS (by first | omega | exact own_ne (by omega) | exact own_le (by omega)) (allS (by first | omega | exact own_ne (by omega) | exact own_le (by omega)) all0))).ext E147)
    have cf_151 := (A146.1.ext E147)
    have cf_152 := (A146.2.1.ext E147)
    have cf_153 := (A146.2.2.1.ext E147)
    have cf_154 := (A146.2.2.2.ext E147)
    have cf_155 := (V146.ext E147)
    have cf_156 := ((XE144.keep K146).ext E147)
    have cf_157 := ((((((((A129.2.ext E130).ext E131).keep K138 (ninS (by first | omega | exact own_ne (by omega) | exact own_le (by omega)) nin0)).ext E139).keep K141 (ninS (by first | omega | exact own_ne (by omega) | exact own_le (by omega)) nin0)).keep K144 (ninS (by first | omega | exact own_ne (by omega) | exact own_le (by omega)) nin0)).keep K146 (ninS (by first | omega | exact own_ne (by omega) | exact own_le (by omega)) (ninS (by first | omega | exact own_ne (by omega) | exact own_le (by omega)) nin0))).ext E147)
    obtain ⟨_, _, ⟨T158, L158, k158, n158⟩, -, X158, ⟨Lc158, hQ158, l158, y158, z158⟩, st158⟩ := X147.specialBack hx (y := MN3) rfl hown (mvT hZ (wd 150 rfl)) (mvT hZ (wd 151 rfl)) (mvT hZ (wd 152 rfl)) (by decide) (backOf (W := 1) (lim_2 l Z a0 hw [] b147 b139 _ b144 (((0 : Int32) + (1 : Int32)) + (1 : Int32)) k144 b111 b121 mr wM b105 h147 n0 (by omega) cf_150 SM ⟨cf_151, cf_152, cf_153, cf_154⟩ M cf_155 (Ins.of_exa cf_148 (wd 146 rfl)) (Ins.of_exa cf_149 (wd 146 rfl)) cf_156 (by first | omega | exact own_ne (by omega) | exact own_le (by omega)) A147 F147_descriptors (by first | omega | exact own_ne (by omega) | exact own_le (by omega)) cf_149 cf_157) hZ (wd 152 rfl) (wd 149 rfl) (by decide) (by decide)) (g := (mkF m 226 #[.val (.int cnt), .val (.int fl), .val (.long r1), .second, .val (.long r2), .second, .val (.long r3), .second, .val (.int (2 : Int32)), .val (.ref b102), .val (.ref b105), .val (.ref b108), .val (.ref b111), .val (.ref b121), .val (.ref b130), .val (.ref b139), .val (.ref b105), .val (.long r2), .second, .unset, .unset] [(.ref b139), (.ref b147), (.ref b147)])) rfl (by rw [hml]; rfl) (Steps.refl _) (a := b147) (argsL := [(.ref b139)]) (rest := [(.ref b147)]) (lenOf pd__Ljava_util_List__V rfl) rfl (Nat.le_of_eq rfl) (hb hby at_226) (fun _ _ => ⟨rfl, e147, (by decide : 21 + 2 ≤ _), (by decide : 116 + 4 ≤ _)⟩)
    dsimp only [Pt.U, Pt.locs, Pt.cells, Pt.slots] at X158 l158 y158 z158 st158 hQ158
    subst l158 y158 z158
    obtain ⟨t158, rfl, N158q, lo158, K158, E158, F158, A158⟩ := hQ158
    have lo158 := own_nle lo158
    have N158 := Fr.app N146 N158q
    have sz158 := K158.1
    refine go_tr (B := (T158.setTop (mkF m 229 #[.val (.int cnt), .val (.int fl), .val (.long r1), .second, .val (.long r2), .second, .val (.long r3), .second, .val (.int (2 : Int32)), .val (.ref b102), .val (.ref b105), .val (.ref b108), .val (.ref b111), .val (.ref b121), .val (.ref b130), .val (.ref b139), .val (.ref b105), .val (.long r2), .second, .unset, .unset] [(.ref b147)]))) (st158) ?_
    refine go_of (B := (T158.setTop (mkF m 233 #[.val (.int cnt), .val (.int fl), .val (.long r1), .second, .val (.long r2), .second, .val (.long r3), .second, .val (.int (2 : Int32)), .val (.ref b102), .val (.ref b105), .val (.ref b108), .val (.ref b111), .val (.ref b121), .val (.ref b130), .val (.ref b139), .val (.ref b105), .val (.long r2), .second, .val (.ref b147), .unset] [(.ref b147)]))) (fun _ kk => XS.astore X158.here hx rfl (hb hby at_229) rfl rfl rfl (XS.aload X158.here hx rfl (hb hby at_231) rfl rfl kk)) ?_
    have cf_159 := (cf_150.keep K158 (allS (by first | omega | exact own_ne (by omega) | exact own_le (by omega)) all0))
    have cf_160 := (cf_149.keep K158)
    have cf_161 := (cf_157.keep K158 (ninS (by first | omega | exact own_ne (by omega) | exact own_le (by omega)) nin0))
    obtain ⟨cq162, kq162, q162a, q162b, q162c⟩ := isOf hZ rfl E158
    obtain ⟨_, _, ⟨T162, L162, k162, n162⟩, -, X162, ⟨Lc162, hQ162, l162, y162, z162⟩, st162⟩ := X158.virtualBack hx (y := MN4) (z := MN4) hown (mvT hZ (wd 262 rfl)) (mvT hZ (wd 263 rfl)) (notFace_of_selects (args := #[]) (mvT hZ (wd 265 rfl))) (mvT hZ (wd 265 rfl)) (mvT hZ (wd 264 rfl)) (by decide) (backOf (W := 0) (lr_2 l Z a0 hw [] b147 t158 b111 b121 wM b105 T158.heap n0 (by omega) cf_159 SM (by first | omega | exact own_ne (by omega) | exact own_le (by omega)) F158 A158 cf_160 cf_161) hZ (wd 266 rfl) (wd 149 rfl) (by decide) (by decide)) q162a q162c (g := (mkF m 233 #[.val (.int cnt), .val (.int fl), .val (.long r1), .second, .val (.long r2), .second, .val (.long r3), .second, .val (.int (2 : Int32)), .val (.ref b102), .val (.ref b105), .val (.ref b108), .val (.ref b111), .val (.ref b121), .val (.ref b130), .val (.ref b139), .val (.ref b105), .val (.long r2), .second, .val (.ref b147), .unset] [(.ref b147)])) rfl (by rw [hml]; rfl) (Steps.refl _) (argsL := []) (rest := []) (lenOf pd___Lcom_example_wombat_wombat_rules_RateLimit_ rfl) rfl (Nat.le_of_eq rfl) (hb hby at_233) (fun _ _ => ⟨rfl, rfl, (by decide : 23 + 0 ≤ _), (by decide : 120 + 0 ≤ _)⟩)
    dsimp only [Pt.U, Pt.locs, Pt.cells, Pt.slots] at X162 l162 y162 z162 st162 hQ162
    subst l162 y162 z162
    obtain ⟨rfl, N162q, e162⟩ := hQ162
    have N162 := Fr.app N158 N162q
    refine go_tr (B := (T162.setTop (mkF m 236 #[.val (.int cnt), .val (.int fl), .val (.long r1), .second, .val (.long r2), .second, .val (.long r3), .second, .val (.int (2 : Int32)), .val (.ref b102), .val (.ref b105), .val (.ref b108), .val (.ref b111), .val (.ref b121), .val (.ref b130), .val (.ref b139), .val (.ref b105), .val (.long r2), .second, .val (.ref b147), .unset] [(.ref b105)]))) (st162) ?_
    refine go_of (B := (T162.setTop (mkF m 247 #[.val (.int cnt), .val (.int fl), .val (.long r1), .second, .val (.long r2), .second, .val (.long r3), .second, .val (.int (2 : Int32)), .val (.ref b102), .val (.ref b105), .val (.ref b108), .val (.ref b111), .val (.ref b121), .val (.ref b130), .val (.ref b139), .val (.ref b105), .val (.long r2), .second, .val (.ref b147), .val (.ref b105)] [(.ref b105)]))) (fun _ kk => XS.astore X162.here hx rfl (hb hby at_236) rfl rfl rfl (XS.aload X162.here hx rfl (hb hby at_238) rfl rfl (XS.aload X162.here hx rfl (hb hby at_240) rfl rfl (Jvm.RoadKit.acmp (g := (mkF m 242 #[.val (.int cnt), .val (.int fl), .val (.long r1), .second, .val (.long r2), .second, .val (.long r3), .second, .val (.int (2 : Int32)), .val (.ref b102), .val (.ref b105), .val (.ref b108), .val (.ref b111), .val (.ref b121), .val (.ref b130), .val (.ref b139), .val (.ref b105), .val (.long r2), .second, .val (.ref b147), .val (.ref b105)] [(.ref b105), (.ref b105)])) X162 hx rfl rfl rfl (pc0 := 242) (pc' := 245) (same := true) rfl (hb hby at_242) rfl (decide_eq_true rfl) (by decide) (by decide) (XS.aload X162.here hx rfl (hb hby at_245) rfl rfl kk))))) ?_
    have cf_163 := (((((((((((((((((A107.2.ext E108).keep K110 (ninS (by first | omega | exact own_ne (by omega) | exact own_le (by omega)) nin0)).ext E111).ext E112).keep K120 (ninS (by first | omega | exact own_ne (by omega) | exact own_le (by omega)) nin0)).ext E121).ext E122).keep K129 (ninS (by first | omega | exact own_ne (by omega) | exact own_le (by omega)) nin0)).ext E130).ext E131).keep K138 (ninS (by first | omega | exact own_ne (by omega) | exact own_le (by omega)) nin0)).ext E139).keep K141 (ninS (by first | omega | exact own_ne (by omega) | exact own_le (by omega)) nin0)).keep K144 (ninS (by first | omega | exact own_ne (by omega) | exact own_le (by omega)) nin0)).keep K146 (ninS (by first | omega | exact own_ne (by omega) | exact own_le (by omega)) (ninS (by first | omega | exact own_ne (by omega) | exact own_le (by omega)) nin0))).ext E147).keep K158 (ninS (by first | omega | exact own_ne (by omega) | exact own_le (by omega)) nin0))
    have cf_165 := (((((((((((((((((A107.1.ext E108).keep K110).ext E111).ext E112).keep K120).ext E121).ext E122).keep K129).ext E130).ext E131).keep K138).ext E139).keep K141).keep K144).keep K146).ext E147).keep K158)
    obtain ⟨cq164, kq164, q164a, q164b, q164c⟩ := isOf hZ e162 cf_165
    obtain ⟨_, _, ⟨T164, L164, k164, n164⟩, -, X164, ⟨Lc164, hQ164, l164, y164, z164⟩, st164⟩ := X162.virtualBack hx (y := MN6) (z := MN6) hown (mvT hZ (wd 267 rfl)) (mvT hZ (wd 268 rfl)) (notFace_of_selects (args := #[]) (mvT hZ (wd 270 rfl))) (mvT hZ (wd 270 rfl)) (mvT hZ (wd 269 rfl)) (by decide) (backOf (W := 0) (rpu l Z a0 hw [] b105 r2 T158.heap n0 (by omega) cf_163) hZ (wd 271 rfl) (wd 3 rfl) (by decide) (by decide)) q164a q164c (g := (mkF m 247 #[.val (.int cnt), .val (.int fl), .val (.long r1), .second, .val (.long r2), .second, .val (.long r3), .second, .val (.int (2 : Int32)), .val (.ref b102), .val (.ref b105), .val (.ref b108), .val (.ref b111), .val (.ref b121), .val (.ref b130), .val (.ref b139), .val (.ref b105), .val (.long r2), .second, .val (.ref b147), .val (.ref b105)] [(.ref b105)])) rfl (by rw [hml]; rfl) (Steps.refl _) (argsL := []) (rest := []) (lenOf pd___J rfl) rfl (Nat.le_of_eq rfl) (hb hby at_247) (fun _ _ => ⟨rfl, e162, (by decide : 23 + 0 ≤ _), (by decide : 120 + 0 ≤ _)⟩)
    dsimp only [Pt.U, Pt.locs, Pt.cells, Pt.slots] at X164 l164 y164 z164 st164 hQ164
    subst l164 y164 z164
    obtain ⟨rfl, N164q, e164⟩ := hQ164
    have N164 := Fr.app N162 N164q
    refine go_tr (B := (T164.setTop (mkF m 250 #[.val (.int cnt), .val (.int fl), .val (.long r1), .second, .val (.long r2), .second, .val (.long r3), .second, .val (.int (2 : Int32)), .val (.ref b102), .val (.ref b105), .val (.ref b108), .val (.ref b111), .val (.ref b121), .val (.ref b130), .val (.ref b139), .val (.ref b105), .val (.long r2), .second, .val (.ref b147), .val (.ref b105)] [(.long r2)]))) (st164) ?_
    refine go_of (B := (T164.setTop (mkF m 261 #[.val (.int cnt), .val (.int fl), .val (.long r1), .second, .val (.long r2), .second, .val (.long r3), .second, .val (.int (2 : Int32)), .val (.ref b102), .val (.ref b105), .val (.ref b108), .val (.ref b111), .val (.ref b121), .val (.ref b130), .val (.ref b139), .val (.ref b105), .val (.long r2), .second, .val (.ref b147), .val (.ref b105)] [(.int (1 : Int32))]))) (fun _ kk => XS.lload X164.here hx rfl (hb hby at_250) rfl (XS.lcmp X164.here hx rfl (hb hby at_252) rfl (XS.ifNo X164.here hx rfl (hb hby at_253) rfl ((if0 _ _).trans (teq ((lw_eq _ _).mpr rfl)).2) (XS.iconst X164.here hx rfl (hb hby at_256) (XS.goto X164.here hx rfl (pc0 := 257) (pc' := 261) rfl (hb hby at_257) (by decide) (by decide) kk))))) ?_
    refine go_endW X164 hS (by rw [e164]; omega) (v := some (.int (nar .boolean (1 : Int32)))) (fun h => by rw [hret] at h; cases h) hlk (by decide) (by decide) (Q := (Q_rm0 Z cnt fl r1 r2 r3 wT wA wE wM wD kD mr h0 n0)) ?_ (fun fs hr => retN X164 hx (t := .boolean) hret (by simp) (hb hby at_261) hr)
    unfold Q_rm0
    try rw [e164]
    exact ⟨rfl, N164⟩
  · refine go_of (B := (T112.setTop (mkF m 77 #[.val (.int cnt), .val (.int fl), .val (.long r1), .second, .val (.long r2), .second, .val (.long r3), .second, .val (.int (2 : Int32)), .val (.ref b102), .val (.ref b105), .val (.ref b108), .unset, .unset, .unset, .unset, .unset, .unset, .unset, .unset, .unset] [(.ref b102), (.ref b112), (.ref b111), (.ref b111)]))) (fun _ kk => XS.ifNo X112.here hx rfl (hb hby at_68) rfl ((if0 _ _).trans (feq hcc113).1) (XS.aload X112.here hx rfl (hb hby at_71) rfl rfl (XS.goto X112.here hx rfl (pc0 := 73) (pc' := 77) rfl (hb hby at_73) (by decide) (by decide) kk))) ?_
    have cf_166 := (((cf_109.keep K110 (allS (by first | omega | exact own_ne (by omega) | exact own_le (by omega)) all0)).ext E111).ext E112)
    have cf_167 := (A111.ext E112)
    have cf_168 := (F111_key.ext E112)
    have cf_169 := (F111_value.ext E112)
    have cf_170 := (F111_rateLimit.ext E112)
    have cf_171 := (F111_descriptors.ext E112)
    obtain ⟨_, _, ⟨T172, L172, k172, n172⟩, -, X172', hS172', gr172, ⟨Lc172, hQ172, l172, y172, z172⟩, st172⟩ := X112.specialBackS hx (y := MN0) rfl hown (mvT hZ (wd 46 rfl)) (mvT hZ (wd 47 rfl)) (mvT hZ (wd 48 rfl)) (by decide) (backOfS (W := 1) (ds2r l Z a0 hw [] b111 b112 b102 wE _ _ _ _ h112 n0 (by omega) cf_166 SE EE FE cf_167 cf_168 cf_169 cf_170 cf_171 (by first | omega | exact own_ne (by omega) | exact own_le (by omega))) hZ (wd 48 rfl) (wd 37 rfl) (by decide) (by decide)) (g := (mkF m 77 #[.val (.int cnt), .val (.int fl), .val (.long r1), .second, .val (.long r2), .second, .val (.long r3), .second, .val (.int (2 : Int32)), .val (.ref b102), .val (.ref b105), .val (.ref b108), .unset, .unset, .unset, .unset, .unset, .unset, .unset, .unset, .unset] [(.ref b102), (.ref b112), (.ref b111), (.ref b111)])) rfl (by rw [hml]; rfl) (Steps.refl _) (a := b111) (argsL := [(.ref b112), (.ref b102)]) (rest := [(.ref b111)]) (lenOf pd__Ljava_lang_String_Lcom_example_wombat_wombat_rules_RateLimit__V rfl) rfl (Nat.le_of_eq rfl) (hb hby at_77) (fun _ _ => ⟨rfl, e112, (by decide : 6 + 2 ≤ _), (by decide : 30 + 16 ≤ _)⟩)
    dsimp only [Pt.U, Pt.locs, Pt.cells, Pt.slots] at X172' hS172' gr172 l172 y172 z172 st172 hQ172
    subst l172 y172 z172
    have X172 : Stand _ _ _ _ (s.setVm T172.vm) _ _ _ _ _ T172 _ _ _ := X172'
    have hS : s.Since T172.vm T172.heap.size := foldS hS (by rw [e112]; omega) hS172' gr172
    have hZ : Z.Warmed39 (s.setVm T172.vm).vm := State.Warmed39.trans (t := s.setVm T112.vm) hZ hS172'.1
    have hown : (s.setVm T172.vm).vm.findClass "com/example/wombat/wombat/rules/LimitRateLimitPinLaw" = some m.cls := by rw [show (s.setVm T172.vm).vm = T172.vm from rfl, hS172'.1.alike.findClass]; exact hown
    obtain ⟨rfl, N172q, K172, A172⟩ := hQ172
    have N172 := Fr.app N110 N172q
    have sz172 := K172.1
    refine go_tr (B := (T172.setTop (mkF m 80 #[.val (.int cnt), .val (.int fl), .val (.long r1), .second, .val (.long r2), .second, .val (.long r3), .second, .val (.int (2 : Int32)), .val (.ref b102), .val (.ref b105), .val (.ref b108), .unset, .unset, .unset, .unset, .unset, .unset, .unset, .unset, .unset] [(.ref b111)]))) (st172) ?_
    refine go_of (B := (T172.setTop (mkF m 82 #[.val (.int cnt), .val (.int fl), .val (.long r1), .second, .val (.long r2), .second, .val (.long r3), .second, .val (.int (2 : Int32)), .val (.ref b102), .val (.ref b105), .val (.ref b108), .val (.ref b111), .unset, .unset, .unset, .unset, .unset, .unset, .unset, .unset] []))) (fun _ kk => XS.astore X172.here hx rfl (hb hby at_80) rfl rfl rfl kk) ?_
    obtain ⟨T173, h173, X173, e173, E173, A173, D173, -, st173⟩ := newO X172 hx hZ hown (wd 35 rfl) (wd 36 rfl) (wd 37 rfl) rfl (g := (mkF m 82 #[.val (.int cnt), .val (.int fl), .val (.long r1), .second, .val (.long r2), .second, .val (.long r3), .second, .val (.int (2 : Int32)), .val (.ref b102), .val (.ref b105), .val (.ref b108), .val (.ref b111), .unset, .unset, .unset, .unset, .unset, .unset, .unset, .unset] [])) rfl (hb hby at_82) (by decide) (by decide)
    obtain ⟨b173, g173⟩ : ∃ z, z = T172.heap.size := ⟨_, rfl⟩
    rw [← g173] at A173 D173 st173
    have hi173 := own_nlt A173.lt
    have sz173 := E173.1
    have F173_key : Fld Z h173 b173 "com/example/wombat/wombat/rules/Descriptor" "key" "Ljava/lang/String;" .null := D173 (Or.inr (wd 83 rfl)) (ty := (.object "java/lang/String")) (by decide)
    have F173_value : Fld Z h173 b173 "com/example/wombat/wombat/rules/Descriptor" "value" "Ljava/lang/String;" .null := D173 (Or.inr (wd 85 rfl)) (ty := (.object "java/lang/String")) (by decide)
    have F173_rateLimit : Fld Z h173 b173 "com/example/wombat/wombat/rules/Descriptor" "rateLimit" "Lcom/example/wombat/wombat/rules/RateLimit;" .null := D173 (Or.inr (wd 87 rfl)) (ty := (.object "com/example/wombat/wombat/rules/RateLimit")) (by decide)
    have F173_descriptors : Fld Z h173 b173 "com/example/wombat/wombat/rules/Descriptor" "descriptors" "Ljava/util/List;" .null := D173 (Or.inr (wd 89 rfl)) (ty := (.object "java/util/List")) (by decide)
    refine go_of (B := (T173.setTop (mkF m 85 #[.val (.int cnt), .val (.int fl), .val (.long r1), .second, .val (.long r2), .second, .val (.long r3), .second, .val (.int (2 : Int32)), .val (.ref b102), .val (.ref b105), .val (.ref b108), .val (.ref b111), .unset, .unset, .unset, .unset, .unset, .unset, .unset, .unset] [(.ref b173)]))) (st173) ?_
    refine go_of (B := (T173.setTop (mkF m 86 #[.val (.int cnt), .val (.int fl), .val (.long r1), .second, .val (.long r2), .second, .val (.long r3), .second, .val (.int (2 : Int32)), .val (.ref b102), .val (.ref b105), .val (.ref b108), .val (.ref b111), .unset, .unset, .unset, .unset, .unset, .unset, .unset, .unset] [(.ref b173), (.ref b173)]))) (fun _ kk => XS.dup X173.here hx rfl (hb hby at_85) rfl rfl kk) ?_
    obtain ⟨b174, T174, h174, k174, X174, e174, E174, hS, hk174, hZ, hown, st174⟩ := ldcS X173 hx hZ hown (wd 90 rfl) (own_wS hw) e173 hS (by first | omega | exact own_ne (by omega) | exact own_le (by omega)) (g := (mkF m 86 #[.val (.int cnt), .val (.int fl), .val (.long r1), .second, .val (.long r2), .second, .val (.long r3), .second, .val (.int (2 : Int32)), .val (.ref b102), .val (.ref b105), .val (.ref b108), .val (.ref b111), .unset, .unset, .unset, .unset, .unset, .unset, .unset, .unset] [(.ref b173), (.ref b173)])) rfl (hb hby at_86) (n := 4) (by decide) (by decide) (by decide) (by decide)
    have sz174 := E174.1
    refine go_of (B := (T174.setTop (mkF m 88 #[.val (.int cnt), .val (.int fl), .val (.long r1), .second, .val (.long r2), .second, .val (.long r3), .second, .val (.int (2 : Int32)), .val (.ref b102), .val (.ref b105), .val (.ref b108), .val (.ref b111), .unset, .unset, .unset, .unset, .unset, .unset, .unset, .unset] [(.ref b174), (.ref b173), (.ref b173)]))) (st174) ?_
    refine go_of (B := (T174.setTop (mkF m 106 #[.val (.int cnt), .val (.int fl), .val (.long r1), .second, .val (.long r2), .second, .val (.long r3), .second, .val (.int (2 : Int32)), .val (.ref b102), .val (.ref b105), .val (.ref b108), .val (.ref b111), .unset, .unset, .unset, .unset, .unset, .unset, .unset, .unset] [(.ref b105), (.ref b174), (.ref b173), (.ref b173)]))) (fun _ kk => XS.iload X174.here hx rfl (hb hby at_88) rfl (XS.iconst X174.here hx rfl (hb hby at_90) (XS.icmpYes X174.here hx rfl (pc0 := 91) (pc' := 100) rfl (hb hby at_91) rfl (teq (by decide : (2 : Int32) = (2 : Int32))).1 (by decide) (by decide) (XS.aload X174.here hx rfl (hb hby at_100) rfl rfl (XS.goto X174.here hx rfl (pc0 := 102) (pc' := 106) rfl (hb hby at_102) (by decide) (by decide) kk))))) ?_
    have cf_175 := (((cf_166.keep K172 (allS (by first | omega | exact own_ne (by omega) | exact own_le (by omega)) all0)).ext E173).ext E174)
    have cf_176 := (A173.ext E174)
    have cf_177 := (F173_key.ext E174)
    have cf_178 := (F173_value.ext E174)
    have cf_179 := (F173_rateLimit.ext E174)
    have cf_180 := (F173_descriptors.ext E174)
    obtain ⟨_, _, ⟨T181, L181, k181, n181⟩, -, X181', hS181', gr181, ⟨Lc181, hQ181, l181, y181, z181⟩, st181⟩ := X174.specialBackS hx (y := MN0) rfl hown (mvT hZ (wd 46 rfl)) (mvT hZ (wd 47 rfl)) (mvT hZ (wd 48 rfl)) (by decide) (backOfS (W := 1) (ds2r l Z a0 hw [] b173 b174 b105 wE _ _ _ _ h174 n0 (by omega) cf_175 SE EE FE cf_176 cf_177 cf_178 cf_179 cf_180 (by first | omega | exact own_ne (by omega) | exact own_le (by omega))) hZ (wd 48 rfl) (wd 37 rfl) (by decide) (by decide)) (g := (mkF m 106 #[.val (.int cnt), .val (.int fl), .val (.long r1), .second, .val (.long r2), .second, .val (.long r3), .second, .val (.int (2 : Int32)), .val (.ref b102), .val (.ref b105), .val (.ref b108), .val (.ref b111), .unset, .unset, .unset, .unset, .unset, .unset, .unset, .unset] [(.ref b105), (.ref b174), (.ref b173), (.ref b173)])) rfl (by rw [hml]; rfl) (Steps.refl _) (a := b173) (argsL := [(.ref b174), (.ref b105)]) (rest := [(.ref b173)]) (lenOf pd__Ljava_lang_String_Lcom_example_wombat_wombat_rules_RateLimit__V rfl) rfl (Nat.le_of_eq rfl) (hb hby at_106) (fun _ _ => ⟨rfl, e174, (by decide : 11 + 2 ≤ _), (by decide : 58 + 16 ≤ _)⟩)
    dsimp only [Pt.U, Pt.locs, Pt.cells, Pt.slots] at X181' hS181' gr181 l181 y181 z181 st181 hQ181
    subst l181 y181 z181
    have X181 : Stand _ _ _ _ (s.setVm T181.vm) _ _ _ _ _ T181 _ _ _ := X181'
    have hS : s.Since T181.vm T181.heap.size := foldS hS (by rw [e174]; omega) hS181' gr181
    have hZ : Z.Warmed39 (s.setVm T181.vm).vm := State.Warmed39.trans (t := s.setVm T174.vm) hZ hS181'.1
    have hown : (s.setVm T181.vm).vm.findClass "com/example/wombat/wombat/rules/LimitRateLimitPinLaw" = some m.cls := by rw [show (s.setVm T181.vm).vm = T181.vm from rfl, hS181'.1.alike.findClass]; exact hown
    obtain ⟨rfl, N181q, K181, A181⟩ := hQ181
    have N181 := Fr.app N172 N181q
    have sz181 := K181.1
    refine go_tr (B := (T181.setTop (mkF m 109 #[.val (.int cnt), .val (.int fl), .val (.long r1), .second, .val (.long r2), .second, .val (.long r3), .second, .val (.int (2 : Int32)), .val (.ref b102), .val (.ref b105), .val (.ref b108), .val (.ref b111), .unset, .unset, .unset, .unset, .unset, .unset, .unset, .unset] [(.ref b173)]))) (st181) ?_
    refine go_of (B := (T181.setTop (mkF m 111 #[.val (.int cnt), .val (.int fl), .val (.long r1), .second, .val (.long r2), .second, .val (.long r3), .second, .val (.int (2 : Int32)), .val (.ref b102), .val (.ref b105), .val (.ref b108), .val (.ref b111), .val (.ref b173), .unset, .unset, .unset, .unset, .unset, .unset, .unset] []))) (fun _ kk => XS.astore X181.here hx rfl (hb hby at_109) rfl rfl rfl kk) ?_
    obtain ⟨T182, h182, X182, e182, E182, A182, D182, -, st182⟩ := newO X181 hx hZ hown (wd 35 rfl) (wd 36 rfl) (wd 37 rfl) rfl (g := (mkF m 111 #[.val (.int cnt), .val (.int fl), .val (.long r1), .second, .val (.long r2), .second, .val (.long r3), .second, .val (.int (2 : Int32)), .val (.ref b102), .val (.ref b105), .val (.ref b108), .val (.ref b111), .val (.ref b173), .unset, .unset, .unset, .unset, .unset, .unset, .unset] [])) rfl (hb hby at_111) (by decide) (by decide)
    obtain ⟨b182, g182⟩ : ∃ z, z = T181.heap.size := ⟨_, rfl⟩
    rw [← g182] at A182 D182 st182
    have hi182 := own_nlt A182.lt
    have sz182 := E182.1
    have F182_key : Fld Z h182 b182 "com/example/wombat/wombat/rules/Descriptor" "key" "Ljava/lang/String;" .null := D182 (Or.inr (wd 83 rfl)) (ty := (.object "java/lang/String")) (by decide)
    have F182_value : Fld Z h182 b182 "com/example/wombat/wombat/rules/Descriptor" "value" "Ljava/lang/String;" .null := D182 (Or.inr (wd 85 rfl)) (ty := (.object "java/lang/String")) (by decide)
    have F182_rateLimit : Fld Z h182 b182 "com/example/wombat/wombat/rules/Descriptor" "rateLimit" "Lcom/example/wombat/wombat/rules/RateLimit;" .null := D182 (Or.inr (wd 87 rfl)) (ty := (.object "com/example/wombat/wombat/rules/RateLimit")) (by decide)
    have F182_descriptors : Fld Z h182 b182 "com/example/wombat/wombat/rules/Descriptor" "descriptors" "Ljava/util/List;" .null := D182 (Or.inr (wd 89 rfl)) (ty := (.object "java/util/List")) (by decide)
    refine go_of (B := (T182.setTop (mkF m 114 #[.val (.int cnt), .val (.int fl), .val (.long r1), .second, .val (.long r2), .second, .val (.long r3), .second, .val (.int (2 : Int32)), .val (.ref b102), .val (.ref b105), .val (.ref b108), .val (.ref b111), .val (.ref b173), .unset, .unset, .unset, .unset, .unset, .unset, .unset] [(.ref b182)]))) (st182) ?_
    refine go_of (B := (T182.setTop (mkF m 115 #[.val (.int cnt), .val (.int fl), .val (.long r1), .second, .val (.long r2), .second, .val (.long r3), .second, .val (.int (2 : Int32)), .val (.ref b102), .val (.ref b105), .val (.ref b108), .val (.ref b111), .val (.ref b173), .unset, .unset, .unset, .unset, .unset, .unset, .unset] [(.ref b182), (.ref b182)]))) (fun _ kk => XS.dup X182.here hx rfl (hb hby at_114) rfl rfl kk) ?_
    obtain ⟨b183, T183, h183, k183, X183, e183, E183, hS, hk183, hZ, hown, st183⟩ := ldcS X182 hx hZ hown (wd 91 rfl) (own_wS hw) e182 hS (by first | omega | exact own_ne (by omega) | exact own_le (by omega)) (g := (mkF m 115 #[.val (.int cnt), .val (.int fl), .val (.long r1), .second, .val (.long r2), .second, .val (.long r3), .second, .val (.int (2 : Int32)), .val (.ref b102), .val (.ref b105), .val (.ref b108), .val (.ref b111), .val (.ref b173), .unset, .unset, .unset, .unset, .unset, .unset, .unset] [(.ref b182), (.ref b182)])) rfl (hb hby at_115) (n := 4) (by decide) (by decide) (by decide) (by decide)
    have sz183 := E183.1
    refine go_of (B := (T183.setTop (mkF m 117 #[.val (.int cnt), .val (.int fl), .val (.long r1), .second, .val (.long r2), .second, .val (.long r3), .second, .val (.int (2 : Int32)), .val (.ref b102), .val (.ref b105), .val (.ref b108), .val (.ref b111), .val (.ref b173), .unset, .unset, .unset, .unset, .unset, .unset, .unset] [(.ref b183), (.ref b182), (.ref b182)]))) (st183) ?_
    refine go_of (B := (T183.setTop (mkF m 119 #[.val (.int cnt), .val (.int fl), .val (.long r1), .second, .val (.long r2), .second, .val (.long r3), .second, .val (.int (2 : Int32)), .val (.ref b102), .val (.ref b105), .val (.ref b108), .val (.ref b111), .val (.ref b173), .unset, .unset, .unset, .unset, .unset, .unset, .unset] [(.ref b108), (.ref b183), (.ref b182), (.ref b182)]))) (fun _ kk => XS.aload X183.here hx rfl (hb hby at_117) rfl rfl kk) ?_
    have cf_184 := (((cf_175.keep K181 (allS (by first | omega | exact own_ne (by omega) | exact own_le (by omega)) all0)).ext E182).ext E183)
    have cf_185 := (A182.ext E183)
    have cf_186 := (F182_key.ext E183)
    have cf_187 := (F182_value.ext E183)
    have cf_188 := (F182_rateLimit.ext E183)
    have cf_189 := (F182_descriptors.ext E183)
    obtain ⟨_, _, ⟨T190, L190, k190, n190⟩, -, X190', hS190', gr190, ⟨Lc190, hQ190, l190, y190, z190⟩, st190⟩ := X183.specialBackS hx (y := MN0) rfl hown (mvT hZ (wd 46 rfl)) (mvT hZ (wd 47 rfl)) (mvT hZ (wd 48 rfl)) (by decide) (backOfS (W := 1) (ds2r l Z a0 hw [] b182 b183 b108 wE _ _ _ _ h183 n0 (by omega) cf_184 SE EE FE cf_185 cf_186 cf_187 cf_188 cf_189 (by first | omega | exact own_ne (by omega) | exact own_le (by omega))) hZ (wd 48 rfl) (wd 37 rfl) (by decide) (by decide)) (g := (mkF m 119 #[.val (.int cnt), .val (.int fl), .val (.long r1), .second, .val (.long r2), .second, .val (.long r3), .second, .val (.int (2 : Int32)), .val (.ref b102), .val (.ref b105), .val (.ref b108), .val (.ref b111), .val (.ref b173), .unset, .unset, .unset, .unset, .unset, .unset, .unset] [(.ref b108), (.ref b183), (.ref b182), (.ref b182)])) rfl (by rw [hml]; rfl) (Steps.refl _) (a := b182) (argsL := [(.ref b183), (.ref b108)]) (rest := [(.ref b182)]) (lenOf pd__Ljava_lang_String_Lcom_example_wombat_wombat_rules_RateLimit__V rfl) rfl (Nat.le_of_eq rfl) (hb hby at_119) (fun _ _ => ⟨rfl, e183, (by decide : 16 + 2 ≤ _), (by decide : 86 + 16 ≤ _)⟩)
    dsimp only [Pt.U, Pt.locs, Pt.cells, Pt.slots] at X190' hS190' gr190 l190 y190 z190 st190 hQ190
    subst l190 y190 z190
    have X190 : Stand _ _ _ _ (s.setVm T190.vm) _ _ _ _ _ T190 _ _ _ := X190'
    have hS : s.Since T190.vm T190.heap.size := foldS hS (by rw [e183]; omega) hS190' gr190
    have hZ : Z.Warmed39 (s.setVm T190.vm).vm := State.Warmed39.trans (t := s.setVm T183.vm) hZ hS190'.1
    have hown : (s.setVm T190.vm).vm.findClass "com/example/wombat/wombat/rules/LimitRateLimitPinLaw" = some m.cls := by rw [show (s.setVm T190.vm).vm = T190.vm from rfl, hS190'.1.alike.findClass]; exact hown
    obtain ⟨rfl, N190q, K190, A190⟩ := hQ190
    have N190 := Fr.app N181 N190q
    have sz190 := K190.1
    refine go_tr (B := (T190.setTop (mkF m 122 #[.val (.int cnt), .val (.int fl), .val (.long r1), .second, .val (.long r2), .second, .val (.long r3), .second, .val (.int (2 : Int32)), .val (.ref b102), .val (.ref b105), .val (.ref b108), .val (.ref b111), .val (.ref b173), .unset, .unset, .unset, .unset, .unset, .unset, .unset] [(.ref b182)]))) (st190) ?_
    refine go_of (B := (T190.setTop (mkF m 124 #[.val (.int cnt), .val (.int fl), .val (.long r1), .second, .val (.long r2), .second, .val (.long r3), .second, .val (.int (2 : Int32)), .val (.ref b102), .val (.ref b105), .val (.ref b108), .val (.ref b111), .val (.ref b173), .val (.ref b182), .unset, .unset, .unset, .unset, .unset, .unset] []))) (fun _ kk => XS.astore X190.here hx rfl (hb hby at_122) rfl rfl rfl kk) ?_
    obtain ⟨T191, h191, X191, e191, E191, A191, D191, -, st191⟩ := newO X190 hx hZ hown (wd 92 rfl) (wd 93 rfl) (wd 94 rfl) rfl (g := (mkF m 124 #[.val (.int cnt), .val (.int fl), .val (.long r1), .second, .val (.long r2), .second, .val (.long r3), .second, .val (.int (2 : Int32)), .val (.ref b102), .val (.ref b105), .val (.ref b108), .val (.ref b111), .val (.ref b173), .val (.ref b182), .unset, .unset, .unset, .unset, .unset, .unset] [])) rfl (hb hby at_124) (by decide) (by decide)
    obtain ⟨b191, g191⟩ : ∃ z, z = T190.heap.size := ⟨_, rfl⟩
    rw [← g191] at A191 D191 st191
    have hi191 := own_nlt A191.lt
    have sz191 := E191.1
    have F191_modCount : Fld Z h191 b191 "java/util/AbstractList" "modCount" "I" (.int (0 : Int32)) := D191 (Or.inl (wd 112 rfl)) (ty := .int) (by decide)
    have F191_elementData : Fld Z h191 b191 "java/util/ArrayList" "elementData" "[Ljava/lang/Object;" .null := D191 (Or.inl (wd 115 rfl)) (ty := (.array (.object "java/lang/Object"))) (by decide)
    have F191_size : Fld Z h191 b191 "java/util/ArrayList" "size" "I" (.int (0 : Int32)) := D191 (Or.inl (wd 124 rfl)) (ty := .int) (by decide)
    refine go_of (B := (T191.setTop (mkF m 127 #[.val (.int cnt), .val (.int fl), .val (.long r1), .second, .val (.long r2), .second, .val (.long r3), .second, .val (.int (2 : Int32)), .val (.ref b102), .val (.ref b105), .val (.ref b108), .val (.ref b111), .val (.ref b173), .val (.ref b182), .unset, .unset, .unset, .unset, .unset, .unset] [(.ref b191)]))) (st191) ?_
    refine go_of (B := (T191.setTop (mkF m 128 #[.val (.int cnt), .val (.int fl), .val (.long r1), .second, .val (.long r2), .second, .val (.long r3), .second, .val (.int (2 : Int32)), .val (.ref b102), .val (.ref b105), .val (.ref b108), .val (.ref b111), .val (.ref b173), .val (.ref b182), .unset, .unset, .unset, .unset, .unset, .unset] [(.ref b191), (.ref b191)]))) (fun _ kk => XS.dup X191.here hx rfl (hb hby at_127) rfl rfl kk) ?_
    have cf_192 := ((cf_184.keep K190 (allS (by first | omega | exact own_ne (by omega) | exact own_le (by omega)) all0)).ext E191)
    obtain ⟨_, _, ⟨T193, L193, k193, n193⟩, -, X193, ⟨Lc193, hQ193, l193, y193, z193⟩, st193⟩ := X191.specialBack hx (y := MN10) rfl hown (mvT hZ (wd 95 rfl)) (mvT hZ (wd 96 rfl)) (mvT hZ (wd 97 rfl)) (by decide) (backOf (W := 1) (rm11 l Z a0 hw [] b191 _ _ wD h191 n0 (by omega) A191 F191_modCount F191_elementData F191_size (by first | omega | exact own_ne (by omega) | exact own_le (by omega)) cf_192 SD) hZ (wd 97 rfl) (wd 94 rfl) (by decide) (by decide)) (g := (mkF m 128 #[.val (.int cnt), .val (.int fl), .val (.long r1), .second, .val (.long r2), .second, .val (.long r3), .second, .val (.int (2 : Int32)), .val (.ref b102), .val (.ref b105), .val (.ref b108), .val (.ref b111), .val (.ref b173), .val (.ref b182), .unset, .unset, .unset, .unset, .unset, .unset] [(.ref b191), (.ref b191)])) rfl (by rw [hml]; rfl) (Steps.refl _) (a := b191) (argsL := []) (rest := [(.ref b191)]) (lenOf pd___V rfl) rfl (Nat.le_of_eq rfl) (hb hby at_128) (fun _ _ => ⟨rfl, e191, (by decide : 19 + 0 ≤ _), (by decide : 105 + 0 ≤ _)⟩)
    dsimp only [Pt.U, Pt.locs, Pt.cells, Pt.slots] at X193 l193 y193 z193 st193 hQ193
    subst l193 y193 z193
    obtain ⟨rfl, N193q, K193, A193⟩ := hQ193
    have N193 := Fr.app N190 N193q
    have sz193 := K193.1
    refine go_tr (B := (T193.setTop (mkF m 131 #[.val (.int cnt), .val (.int fl), .val (.long r1), .second, .val (.long r2), .second, .val (.long r3), .second, .val (.int (2 : Int32)), .val (.ref b102), .val (.ref b105), .val (.ref b108), .val (.ref b111), .val (.ref b173), .val (.ref b182), .unset, .unset, .unset, .unset, .unset, .unset] [(.ref b191)]))) (st193) ?_
    refine go_of (B := (T193.setTop (mkF m 137 #[.val (.int cnt), .val (.int fl), .val (.long r1), .second, .val (.long r2), .second, .val (.long r3), .second, .val (.int (2 : Int32)), .val (.ref b102), .val (.ref b105), .val (.ref b108), .val (.ref b111), .val (.ref b173), .val (.ref b182), .val (.ref b191), .unset, .unset, .unset, .unset, .unset] [(.ref b111), (.ref b191)]))) (fun _ kk => XS.astore X193.here hx rfl (hb hby at_131) rfl rfl rfl (XS.aload X193.here hx rfl (hb hby at_133) rfl rfl (XS.aload X193.here hx rfl (hb hby at_135) rfl rfl kk))) ?_
    have cf_194 := (cf_192.keep K193 (allS (by first | omega | exact own_ne (by omega) | exact own_le (by omega)) all0))
    have cf_195 := ((((((((A172.1.ext E173).ext E174).keep K181).ext E182).ext E183).keep K190).ext E191).keep K193)
    obtain ⟨cq196, kq196, q196a, q196b, q196c⟩ := isOf hZ rfl A193.1
    obtain ⟨_, _, ⟨T196, L196, k196, n196⟩, -, X196, ⟨Lc196, hQ196, l196, y196, z196⟩, st196⟩ := X193.virtualBack hx (y := MN11) (z := MN11) hown (mvT hZ (wd 116 rfl)) (mvT hZ (wd 117 rfl)) (notFace_of_selects (args := #[]) (mvT hZ (wd 119 rfl))) (mvT hZ (wd 119 rfl)) (mvT hZ (wd 118 rfl)) (by decide) (backOf (W := 0) (add0 l Z a0 hw [] b191 b111 (0 : Int32) wD kD T193.heap n0 (by omega) ⟨A193.1, A193.2.1, A193.2.2.1, A193.2.2.2⟩ (by first | omega | exact own_ne (by omega) | exact own_le (by omega)) cf_194 SD (VD.ext cf_194.2) D0 (Ins.of_exa cf_195 (wd 146 rfl))) hZ (wd 120 rfl) (wd 94 rfl) (by decide) (by decide)) q196a q196c (g := (mkF m 137 #[.val (.int cnt), .val (.int fl), .val (.long r1), .second, .val (.long r2), .second, .val (.long r3), .second, .val (.int (2 : Int32)), .val (.ref b102), .val (.ref b105), .val (.ref b108), .val (.ref b111), .val (.ref b173), .val (.ref b182), .val (.ref b191), .unset, .unset, .unset, .unset, .unset] [(.ref b111), (.ref b191)])) rfl (by rw [hml]; rfl) (Steps.refl _) (argsL := [(.ref b111)]) (rest := []) (lenOf pd__Ljava_lang_Object__Z rfl) rfl (Nat.le_of_eq rfl) (hb hby at_137) (fun _ _ => ⟨rfl, rfl, (by decide : 19 + 1 ≤ _), (by decide : 105 + 10 ≤ _)⟩)
    dsimp only [Pt.U, Pt.locs, Pt.cells, Pt.slots] at X196 l196 y196 z196 st196 hQ196
    subst l196 y196 z196
    obtain ⟨b196, k196, rfl, N196q, lo196, K196, A196, V196, O196, XE196⟩ := hQ196
    have lo196 := own_nle lo196
    have N196 := Fr.app N193 N196q
    have hi196 := own_nlt (V196.lt)
    have sz196 := K196.1
    refine go_tr (B := (T196.setTop (mkF m 140 #[.val (.int cnt), .val (.int fl), .val (.long r1), .second, .val (.long r2), .second, .val (.long r3), .second, .val (.int (2 : Int32)), .val (.ref b102), .val (.ref b105), .val (.ref b108), .val (.ref b111), .val (.ref b173), .val (.ref b182), .val (.ref b191), .unset, .unset, .unset, .unset, .unset] [(.int (1 : Int32))]))) (st196) ?_
    refine go_of (B := (T196.setTop (mkF m 151 #[.val (.int cnt), .val (.int fl), .val (.long r1), .second, .val (.long r2), .second, .val (.long r3), .second, .val (.int (2 : Int32)), .val (.ref b102), .val (.ref b105), .val (.ref b108), .val (.ref b111), .val (.ref b173), .val (.ref b182), .val (.ref b191), .unset, .unset, .unset, .unset, .unset] [(.ref b173), (.ref b191)]))) (fun _ kk => XS.pop X196.here hx rfl (hb hby at_140) rfl rfl (XS.iload X196.here hx rfl (hb hby at_141) rfl (XS.iconst X196.here hx rfl (hb hby at_143) (XS.icmpNo X196.here hx rfl (hb hby at_144) rfl (flt (by decide : ¬ ((2 : Int32) < (2 : Int32)))).1 (XS.aload X196.here hx rfl (hb hby at_147) rfl rfl (XS.aload X196.here hx rfl (hb hby at_149) rfl rfl kk)))))) ?_
    have cf_197 := ((((((A181.1.ext E182).ext E183).keep K190).ext E191).keep K193).keep K196)
    obtain ⟨cq198, kq198, q198a, q198b, q198c⟩ := isOf hZ rfl A196.1
    obtain ⟨_, _, ⟨T198, L198, k198, n198⟩, -, X198, ⟨Lc198, hQ198, l198, y198, z198⟩, st198⟩ := X196.virtualBack hx (y := MN11) (z := MN11) hown (mvT hZ (wd 116 rfl)) (mvT hZ (wd 117 rfl)) (notFace_of_selects (args := #[]) (mvT hZ (wd 119 rfl))) (mvT hZ (wd 119 rfl)) (mvT hZ (wd 118 rfl)) (by decide) (backOf (W := 0) (add1 l Z a0 hw [] b191 b173 b196 ((0 : Int32) + (1 : Int32)) k196 b111 T196.heap n0 (by omega) ⟨A196.1, A196.2.1, A196.2.2.1, A196.2.2.2⟩ (by first | omega | exact own_ne (by omega) | exact own_le (by omega)) (by first | omega | exact own_ne (by omega) | exact own_le (by omega)) V196 O196 (Ins.of_exa cf_197 (wd 146 rfl)) (by first | omega | exact own_ne (by omega) | exact own_le (by omega))) hZ (wd 120 rfl) (wd 94 rfl) (by decide) (by decide)) q198a q198c (g := (mkF m 151 #[.val (.int cnt), .val (.int fl), .val (.long r1), .second, .val (.long r2), .second, .val (.long r3), .second, .val (.int (2 : Int32)), .val (.ref b102), .val (.ref b105), .val (.ref b108), .val (.ref b111), .val (.ref b173), .val (.ref b182), .val (.ref b191), .unset, .unset, .unset, .unset, .unset] [(.ref b173), (.ref b191)])) rfl (by rw [hml]; rfl) (Steps.refl _) (argsL := [(.ref b173)]) (rest := []) (lenOf pd__Ljava_lang_Object__Z rfl) rfl (Nat.le_of_eq rfl) (hb hby at_151) (fun _ _ => ⟨rfl, rfl, (by decide : 20 + 0 ≤ _), (by decide : 115 + 0 ≤ _)⟩)
    dsimp only [Pt.U, Pt.locs, Pt.cells, Pt.slots] at X198 l198 y198 z198 st198 hQ198
    subst l198 y198 z198
    obtain ⟨rfl, N198q, K198, A198, V198⟩ := hQ198
    have N198 := Fr.app N196 N198q
    have sz198 := K198.1
    refine go_tr (B := (T198.setTop (mkF m 154 #[.val (.int cnt), .val (.int fl), .val (.long r1), .second, .val (.long r2), .second, .val (.long r3), .second, .val (.int (2 : Int32)), .val (.ref b102), .val (.ref b105), .val (.ref b108), .val (.ref b111), .val (.ref b173), .val (.ref b182), .val (.ref b191), .unset, .unset, .unset, .unset, .unset] [(.int (1 : Int32))]))) (st198) ?_
    refine go_of (B := (T198.setTop (mkF m 172 #[.val (.int cnt), .val (.int fl), .val (.long r1), .second, .val (.long r2), .second, .val (.long r3), .second, .val (.int (2 : Int32)), .val (.ref b102), .val (.ref b105), .val (.ref b108), .val (.ref b111), .val (.ref b173), .val (.ref b182), .val (.ref b191), .unset, .unset, .unset, .unset, .unset] [(.int (1 : Int32)), (.int (2 : Int32))]))) (fun _ kk => XS.pop X198.here hx rfl (hb hby at_154) rfl rfl (XS.iload X198.here hx rfl (hb hby at_155) rfl (XS.iconst X198.here hx rfl (hb hby at_157) (XS.icmpYes X198.here hx rfl (pc0 := 158) (pc' := 169) rfl (hb hby at_158) rfl (tlt (by decide : (2 : Int32) < (3 : Int32))).1 (by decide) (by decide) (XS.iload X198.here hx rfl (hb hby at_169) rfl (XS.iconst X198.here hx rfl (hb hby at_171) kk)))))) ?_
    refine go_of (B := (T198.setTop (mkF m 193 #[.val (.int cnt), .val (.int fl), .val (.long r1), .second, .val (.long r2), .second, .val (.long r3), .second, .val (.int (2 : Int32)), .val (.ref b102), .val (.ref b105), .val (.ref b108), .val (.ref b111), .val (.ref b173), .val (.ref b182), .val (.ref b191), .unset, .unset, .unset, .unset, .unset] [(.ref b105)]))) (fun _ kk => XS.icmpYes X198.here hx rfl (pc0 := 172) (pc' := 180) rfl (hb hby at_172) rfl (feq (by decide : ¬ ((2 : Int32) = (1 : Int32)))).2 (by decide) (by decide) (XS.iload X198.here hx rfl (hb hby at_180) rfl (XS.iconst X198.here hx rfl (hb hby at_182) (XS.icmpNo X198.here hx rfl (hb hby at_183) rfl (teq (by decide : (2 : Int32) = (2 : Int32))).2 (XS.aload X198.here hx rfl (hb hby at_186) rfl rfl (XS.goto X198.here hx rfl (pc0 := 188) (pc' := 193) rfl (hb hby at_188) (by decide) (by decide) kk)))))) ?_
    refine go_of (B := (T198.setTop (mkF m 208 #[.val (.int cnt), .val (.int fl), .val (.long r1), .second, .val (.long r2), .second, .val (.long r3), .second, .val (.int (2 : Int32)), .val (.ref b102), .val (.ref b105), .val (.ref b108), .val (.ref b111), .val (.ref b173), .val (.ref b182), .val (.ref b191), .val (.ref b105), .unset, .unset, .unset, .unset] [(.int (2 : Int32)), (.int (2 : Int32))]))) (fun _ kk => XS.astore X198.here hx rfl (hb hby at_193) rfl rfl rfl (XS.iload X198.here hx rfl (hb hby at_195) rfl (XS.iconst X198.here hx rfl (hb hby at_197) (XS.icmpYes X198.here hx rfl (pc0 := 198) (pc' := 205) rfl (hb hby at_198) rfl (feq (by decide : ¬ ((2 : Int32) = (1 : Int32)))).2 (by decide) (by decide) (XS.iload X198.here hx rfl (hb hby at_205) rfl (XS.iconst X198.here hx rfl (hb hby at_207) kk)))))) ?_
    refine go_of (B := (T198.setTop (mkF m 220 #[.val (.int cnt), .val (.int fl), .val (.long r1), .second, .val (.long r2), .second, .val (.long r3), .second, .val (.int (2 : Int32)), .val (.ref b102), .val (.ref b105), .val (.ref b108), .val (.ref b111), .val (.ref b173), .val (.ref b182), .val (.ref b191), .val (.ref b105), .val (.long r2), .second, .unset, .unset] []))) (fun _ kk => XS.icmpNo X198.here hx rfl (hb hby at_208) rfl (teq (by decide : (2 : Int32) = (2 : Int32))).2 (XS.lload X198.here hx rfl (hb hby at_211) rfl (XS.goto X198.here hx rfl (pc0 := 213) (pc' := 218) rfl (hb hby at_213) (by decide) (by decide) (XS.lstore X198.here hx rfl (hb hby at_218) rfl rfl kk)))) ?_
    obtain ⟨T199, h199, X199, e199, E199, A199, D199, -, st199⟩ := newO X198 hx hZ hown (wd 147 rfl) (wd 148 rfl) (wd 149 rfl) rfl (g := (mkF m 220 #[.val (.int cnt), .val (.int fl), .val (.long r1), .second, .val (.long r2), .second, .val (.long r3), .second, .val (.int (2 : Int32)), .val (.ref b102), .val (.ref b105), .val (.ref b108), .val (.ref b111), .val (.ref b173), .val (.ref b182), .val (.ref b191), .val (.ref b105), .val (.long r2), .second, .unset, .unset] [])) rfl (hb hby at_220) (by decide) (by decide)
    obtain ⟨b199, g199⟩ : ∃ z, z = T198.heap.size := ⟨_, rfl⟩
    rw [← g199] at A199 D199 st199
    have hi199 := own_nlt A199.lt
    have sz199 := E199.1
    have F199_descriptors : Fld Z h199 b199 "com/example/wombat/wombat/rules/Limit" "descriptors" "Ljava/util/List;" .null := D199 (Or.inr (wd 261 rfl)) (ty := (.object "java/util/List")) (by decide)
    refine go_of (B := (T199.setTop (mkF m 223 #[.val (.int cnt), .val (.int fl), .val (.long r1), .second, .val (.long r2), .second, .val (.long r3), .second, .val (.int (2 : Int32)), .val (.ref b102), .val (.ref b105), .val (.ref b108), .val (.ref b111), .val (.ref b173), .val (.ref b182), .val (.ref b191), .val (.ref b105), .val (.long r2), .second, .unset, .unset] [(.ref b199)]))) (st199) ?_
    refine go_of (B := (T199.setTop (mkF m 226 #[.val (.int cnt), .val (.int fl), .val (.long r1), .second, .val (.long r2), .second, .val (.long r3), .second, .val (.int (2 : Int32)), .val (.ref b102), .val (.ref b105), .val (.ref b108), .val (.ref b111), .val (.ref b173), .val (.ref b182), .val (.ref b191), .val (.ref b105), .val (.long r2), .second, .unset, .unset] [(.ref b191), (.ref b199), (.ref b199)]))) (fun _ kk => XS.dup X199.here hx rfl (hb hby at_223) rfl rfl (XS.aload X199.here hx rfl (hb hby at_224) rfl rfl kk)) ?_
    have cf_200 := (((cf_195.keep K196).keep K198).ext E199)
    have cf_201 := ((cf_197.keep K198).ext E199)
    have cf_202 := (((cf_194.keep K196 (allS (by first | omega | exact own_ne (by omega) | exact own_le (by omega)) all0)).keep K198 (allS (by first | omega | exact own_ne (by omega) | exact own_le (by omega)) (allS (by first | omega | exact own_ne (by omega) | exact own_le (by omega)) all0))).ext E199)
    have cf_203 := (A198.1.ext E199)
    have cf_204 := (A198.2.1.ext E199)
    have cf_205 := (A198.2.2.1.ext E199)
    have cf_206 := (A198.2.2.2.ext E199)
    have cf_207 := (V198.ext E199)
    have cf_208 := ((XE196.keep K198).ext E199)
    have cf_209 := ((((((((A181.2.ext E182).ext E183).keep K190 (ninS (by first | omega | exact own_ne (by omega) | exact own_le (by omega)) nin0)).ext E191).keep K193 (ninS (by first | omega | exact own_ne (by omega) | exact own_le (by omega)) nin0)).keep K196 (ninS (by first | omega | exact own_ne (by omega) | exact own_le (by omega)) nin0)).keep K198 (ninS (by first | omega | exact own_ne (by omega) | exact own_le (by omega)) (ninS (by first | omega | exact own_ne (by omega) | exact own_le (by omega)) nin0))).ext E199)
    obtain ⟨_, _, ⟨T210, L210, k210, n210⟩, -, X210, ⟨Lc210, hQ210, l210, y210, z210⟩, st210⟩ := X199.specialBack hx (y := MN3) rfl hown (mvT hZ (wd 150 rfl)) (mvT hZ (wd 151 rfl)) (mvT hZ (wd 152 rfl)) (by decide) (backOf (W := 1) (lim_2 l Z a0 hw [] b199 b191 _ b196 (((0 : Int32) + (1 : Int32)) + (1 : Int32)) k196 b111 b173 mr wM b105 h199 n0 (by omega) cf_202 SM ⟨cf_203, cf_204, cf_205, cf_206⟩ M cf_207 (Ins.of_exa cf_200 (wd 146 rfl)) (Ins.of_exa cf_201 (wd 146 rfl)) cf_208 (by first | omega | exact own_ne (by omega) | exact own_le (by omega)) A199 F199_descriptors (by first | omega | exact own_ne (by omega) | exact own_le (by omega)) cf_201 cf_209) hZ (wd 152 rfl) (wd 149 rfl) (by decide) (by decide)) (g := (mkF m 226 #[.val (.int cnt), .val (.int fl), .val (.long r1), .second, .val (.long r2), .second, .val (.long r3), .second, .val (.int (2 : Int32)), .val (.ref b102), .val (.ref b105), .val (.ref b108), .val (.ref b111), .val (.ref b173), .val (.ref b182), .val (.ref b191), .val (.ref b105), .val (.long r2), .second, .unset, .unset] [(.ref b191), (.ref b199), (.ref b199)])) rfl (by rw [hml]; rfl) (Steps.refl _) (a := b199) (argsL := [(.ref b191)]) (rest := [(.ref b199)]) (lenOf pd__Ljava_util_List__V rfl) rfl (Nat.le_of_eq rfl) (hb hby at_226) (fun _ _ => ⟨rfl, e199, (by decide : 21 + 2 ≤ _), (by decide : 116 + 4 ≤ _)⟩)
    dsimp only [Pt.U, Pt.locs, Pt.cells, Pt.slots] at X210 l210 y210 z210 st210 hQ210
    subst l210 y210 z210
    obtain ⟨t210, rfl, N210q, lo210, K210, E210, F210, A210⟩ := hQ210
    have lo210 := own_nle lo210
    have N210 := Fr.app N198 N210q
    have sz210 := K210.1
    refine go_tr (B := (T210.setTop (mkF m 229 #[.val (.int cnt), .val (.int fl), .val (.long r1), .second, .val (.long r2), .second, .val (.long r3), .second, .val (.int (2 : Int32)), .val (.ref b102), .val (.ref b105), .val (.ref b108), .val (.ref b111), .val (.ref b173), .val (.ref b182), .val (.ref b191), .val (.ref b105), .val (.long r2), .second, .unset, .unset] [(.ref b199)]))) (st210) ?_
    refine go_of (B := (T210.setTop (mkF m 233 #[.val (.int cnt), .val (.int fl), .val (.long r1), .second, .val (.long r2), .second, .val (.long r3), .second, .val (.int (2 : Int32)), .val (.ref b102), .val (.ref b105), .val (.ref b108), .val (.ref b111), .val (.ref b173), .val (.ref b182), .val (.ref b191), .val (.ref b105), .val (.long r2), .second, .val (.ref b199), .unset] [(.ref b199)]))) (fun _ kk => XS.astore X210.here hx rfl (hb hby at_229) rfl rfl rfl (XS.aload X210.here hx rfl (hb hby at_231) rfl rfl kk)) ?_
    have cf_211 := (cf_202.keep K210 (allS (by first | omega | exact own_ne (by omega) | exact own_le (by omega)) all0))
    have cf_212 := (cf_201.keep K210)
    have cf_213 := (cf_209.keep K210 (ninS (by first | omega | exact own_ne (by omega) | exact own_le (by omega)) nin0))
    obtain ⟨cq214, kq214, q214a, q214b, q214c⟩ := isOf hZ rfl E210
    obtain ⟨_, _, ⟨T214, L214, k214, n214⟩, -, X214, ⟨Lc214, hQ214, l214, y214, z214⟩, st214⟩ := X210.virtualBack hx (y := MN4) (z := MN4) hown (mvT hZ (wd 262 rfl)) (mvT hZ (wd 263 rfl)) (notFace_of_selects (args := #[]) (mvT hZ (wd 265 rfl))) (mvT hZ (wd 265 rfl)) (mvT hZ (wd 264 rfl)) (by decide) (backOf (W := 0) (lr_2 l Z a0 hw [] b199 t210 b111 b173 wM b105 T210.heap n0 (by omega) cf_211 SM (by first | omega | exact own_ne (by omega) | exact own_le (by omega)) F210 A210 cf_212 cf_213) hZ (wd 266 rfl) (wd 149 rfl) (by decide) (by decide)) q214a q214c (g := (mkF m 233 #[.val (.int cnt), .val (.int fl), .val (.long r1), .second, .val (.long r2), .second, .val (.long r3), .second, .val (.int (2 : Int32)), .val (.ref b102), .val (.ref b105), .val (.ref b108), .val (.ref b111), .val (.ref b173), .val (.ref b182), .val (.ref b191), .val (.ref b105), .val (.long r2), .second, .val (.ref b199), .unset] [(.ref b199)])) rfl (by rw [hml]; rfl) (Steps.refl _) (argsL := []) (rest := []) (lenOf pd___Lcom_example_wombat_wombat_rules_RateLimit_ rfl) rfl (Nat.le_of_eq rfl) (hb hby at_233) (fun _ _ => ⟨rfl, rfl, (by decide : 23 + 0 ≤ _), (by decide : 120 + 0 ≤ _)⟩)
    dsimp only [Pt.U, Pt.locs, Pt.cells, Pt.slots] at X214 l214 y214 z214 st214 hQ214
    subst l214 y214 z214
    obtain ⟨rfl, N214q, e214⟩ := hQ214
    have N214 := Fr.app N210 N214q
    refine go_tr (B := (T214.setTop (mkF m 236 #[.val (.int cnt), .val (.int fl), .val (.long r1), .second, .val (.long r2), .second, .val (.long r3), .second, .val (.int (2 : Int32)), .val (.ref b102), .val (.ref b105), .val (.ref b108), .val (.ref b111), .val (.ref b173), .val (.ref b182), .val (.ref b191), .val (.ref b105), .val (.long r2), .second, .val (.ref b199), .unset] [(.ref b105)]))) (st214) ?_
    refine go_of (B := (T214.setTop (mkF m 247 #[.val (.int cnt), .val (.int fl), .val (.long r1), .second, .val (.long r2), .second, .val (.long r3), .second, .val (.int (2 : Int32)), .val (.ref b102), .val (.ref b105), .val (.ref b108), .val (.ref b111), .val (.ref b173), .val (.ref b182), .val (.ref b191), .val (.ref b105), .val (.long r2), .second, .val (.ref b199), .val (.ref b105)] [(.ref b105)]))) (fun _ kk => XS.astore X214.here hx rfl (hb hby at_236) rfl rfl rfl (XS.aload X214.here hx rfl (hb hby at_238) rfl rfl (XS.aload X214.here hx rfl (hb hby at_240) rfl rfl (Jvm.RoadKit.acmp (g := (mkF m 242 #[.val (.int cnt), .val (.int fl), .val (.long r1), .second, .val (.long r2), .second, .val (.long r3), .second, .val (.int (2 : Int32)), .val (.ref b102), .val (.ref b105), .val (.ref b108), .val (.ref b111), .val (.ref b173), .val (.ref b182), .val (.ref b191), .val (.ref b105), .val (.long r2), .second, .val (.ref b199), .val (.ref b105)] [(.ref b105), (.ref b105)])) X214 hx rfl rfl rfl (pc0 := 242) (pc' := 245) (same := true) rfl (hb hby at_242) rfl (decide_eq_true rfl) (by decide) (by decide) (XS.aload X214.here hx rfl (hb hby at_245) rfl rfl kk))))) ?_
    have cf_215 := (((((((((((((((((A107.2.ext E108).keep K110 (ninS (by first | omega | exact own_ne (by omega) | exact own_le (by omega)) nin0)).ext E111).ext E112).keep K172 (ninS (by first | omega | exact own_ne (by omega) | exact own_le (by omega)) nin0)).ext E173).ext E174).keep K181 (ninS (by first | omega | exact own_ne (by omega) | exact own_le (by omega)) nin0)).ext E182).ext E183).keep K190 (ninS (by first | omega | exact own_ne (by omega) | exact own_le (by omega)) nin0)).ext E191).keep K193 (ninS (by first | omega | exact own_ne (by omega) | exact own_le (by omega)) nin0)).keep K196 (ninS (by first | omega | exact own_ne (by omega) | exact own_le (by omega)) nin0)).keep K198 (ninS (by first | omega | exact own_ne (by omega) | exact own_le (by omega)) (ninS (by first | omega | exact own_ne (by omega) | exact own_le (by omega)) nin0))).ext E199).keep K210 (ninS (by first | omega | exact own_ne (by omega) | exact own_le (by omega)) nin0))
    have cf_217 := (((((((((((((((((A107.1.ext E108).keep K110).ext E111).ext E112).keep K172).ext E173).ext E174).keep K181).ext E182).ext E183).keep K190).ext E191).keep K193).keep K196).keep K198).ext E199).keep K210)
    obtain ⟨cq216, kq216, q216a, q216b, q216c⟩ := isOf hZ e214 cf_217
    obtain ⟨_, _, ⟨T216, L216, k216, n216⟩, -, X216, ⟨Lc216, hQ216, l216, y216, z216⟩, st216⟩ := X214.virtualBack hx (y := MN6) (z := MN6) hown (mvT hZ (wd 267 rfl)) (mvT hZ (wd 268 rfl)) (notFace_of_selects (args := #[]) (mvT hZ (wd 270 rfl))) (mvT hZ (wd 270 rfl)) (mvT hZ (wd 269 rfl)) (by decide) (backOf (W := 0) (rpu l Z a0 hw [] b105 r2 T210.heap n0 (by omega) cf_215) hZ (wd 271 rfl) (wd 3 rfl) (by decide) (by decide)) q216a q216c (g := (mkF m 247 #[.val (.int cnt), .val (.int fl), .val (.long r1), .second, .val (.long r2), .second, .val (.long r3), .second, .val (.int (2 : Int32)), .val (.ref b102), .val (.ref b105), .val (.ref b108), .val (.ref b111), .val (.ref b173), .val (.ref b182), .val (.ref b191), .val (.ref b105), .val (.long r2), .second, .val (.ref b199), .val (.ref b105)] [(.ref b105)])) rfl (by rw [hml]; rfl) (Steps.refl _) (argsL := []) (rest := []) (lenOf pd___J rfl) rfl (Nat.le_of_eq rfl) (hb hby at_247) (fun _ _ => ⟨rfl, e214, (by decide : 23 + 0 ≤ _), (by decide : 120 + 0 ≤ _)⟩)
    dsimp only [Pt.U, Pt.locs, Pt.cells, Pt.slots] at X216 l216 y216 z216 st216 hQ216
    subst l216 y216 z216
    obtain ⟨rfl, N216q, e216⟩ := hQ216
    have N216 := Fr.app N214 N216q
    refine go_tr (B := (T216.setTop (mkF m 250 #[.val (.int cnt), .val (.int fl), .val (.long r1), .second, .val (.long r2), .second, .val (.long r3), .second, .val (.int (2 : Int32)), .val (.ref b102), .val (.ref b105), .val (.ref b108), .val (.ref b111), .val (.ref b173), .val (.ref b182), .val (.ref b191), .val (.ref b105), .val (.long r2), .second, .val (.ref b199), .val (.ref b105)] [(.long r2)]))) (st216) ?_
    refine go_of (B := (T216.setTop (mkF m 261 #[.val (.int cnt), .val (.int fl), .val (.long r1), .second, .val (.long r2), .second, .val (.long r3), .second, .val (.int (2 : Int32)), .val (.ref b102), .val (.ref b105), .val (.ref b108), .val (.ref b111), .val (.ref b173), .val (.ref b182), .val (.ref b191), .val (.ref b105), .val (.long r2), .second, .val (.ref b199), .val (.ref b105)] [(.int (1 : Int32))]))) (fun _ kk => XS.lload X216.here hx rfl (hb hby at_250) rfl (XS.lcmp X216.here hx rfl (hb hby at_252) rfl (XS.ifNo X216.here hx rfl (hb hby at_253) rfl ((if0 _ _).trans (teq ((lw_eq _ _).mpr rfl)).2) (XS.iconst X216.here hx rfl (hb hby at_256) (XS.goto X216.here hx rfl (pc0 := 257) (pc' := 261) rfl (hb hby at_257) (by decide) (by decide) kk))))) ?_
    refine go_endW X216 hS (by rw [e216]; omega) (v := some (.int (nar .boolean (1 : Int32)))) (fun h => by rw [hret] at h; cases h) hlk (by decide) (by decide) (Q := (Q_rm0 Z cnt fl r1 r2 r3 wT wA wE wM wD kD mr h0 n0)) ?_ (fun fs hr => retN X216 hx (t := .boolean) hret (by simp) (hb hby at_261) hr)
    unfold Q_rm0
    try rw [e216]
    exact ⟨rfl, N216⟩
theorem lw3 {p : Program} {l : Launch} {e : Env} {s : State} {m : MethodId} {args : Array Value} {below : List Frame} {meth : Method} {c : Code} {Z : State} {a0 : Array Value} {h0 : Heap} {n0 : Nat} (cnt : Int32) (fl : Int32) (r1 : Int64) (r2 : Int64) (r3 : Int64) (wT : Addr) (wA : Addr) (wE : Addr) (wM : Addr) (wD : Addr) (kD : ClassId) (mr : Addr) {T0 : State} {locs : List Loc}
    (X0 : Stand p l e room_1 s m args below meth c T0 locs 0 0) (hx : p.tables.exec = Jvm.exec) (hZ : Z.Warmed39 s.vm) (hw : TW a0 Z) (hby : c.code = code) (hml : c.maxLocals = 21) (hown : s.vm.findClass "com/example/wombat/wombat/rules/LimitRateLimitPinLaw" = some m.cls) (hret : meth.sig.returnType = (some .boolean)) (hlk : meth.locks = false) (e0 : T0.heap = h0) (N0 : Fr n0 locs) (Z0 : n0 ≤ h0.size) (O : Old Z n0 h0) (ST : Sta Z Z.heap "com/example/wombat/wombat/rules/RateLimit" "DEFAULT_STORE_TIMEOUT" "Ljava/time/Duration;" (.ref wT)) (SA : Sta Z Z.heap "com/example/wombat/wombat/rules/OnStoreFailure" "ALLOW" "Lcom/example/wombat/wombat/rules/OnStoreFailure;" (.ref wA)) (SE : Sta Z Z.heap "java/util/ImmutableCollections" "EMPTY_LIST" "Ljava/util/ImmutableCollections$ListN;" (.ref wE)) (EE : Exa Z Z.heap wE "java/util/ImmutableCollections$ListN") (FE : Fld Z Z.heap wE "java/util/ImmutableCollections$ListN" "allowNulls" "Z" (.int 0)) (SM : Sta Z Z.heap "java/util/ImmutableCollections" "EMPTY" "Ljava/lang/Object;" (.ref wM)) (WM : wM < n0) (SD : Sta Z Z.heap "java/util/ArrayList" "DEFAULTCAPACITY_EMPTY_ELEMENTDATA" "[Ljava/lang/Object;" (.ref wD)) (VD : Arv Z Z.heap wD kD (.object "java/lang/Object") 0 [] .null) (D0 : wD < n0) (M : own_Mir Z "[Ljava/lang/Object;" mr) :
    Go p e below (T0.setTop (mkF m 10 #[.val (.int cnt), .val (.int fl), .val (.long r1), .second, .val (.long r2), .second, .val (.long r3), .second, .val (.int (3 : Int32)), .unset, .unset, .unset, .unset, .unset, .unset, .unset, .unset, .unset, .unset, .unset, .unset] [])) (fun oo' U2' => ∃ vv' LL', oo' = .returned vv' ∧ (Q_rm0 Z cnt fl r1 r2 r3 wT wA wE wM wD kD mr h0 n0) vv' U2'.heap LL' ∧ ReturnedEndW s oo' U2' LL' room_1.cells room_1.slots) := by
  have wd := @own_wd _ _ hw
  have X0 : Stand p l e room_1 (s.setVm s.vm) m args below meth c T0 locs 0 0 := X0
  have hS : s.Since s.vm 0 := (State.WarmedH.refl s).since 0
  have WM' := own_nlt WM
  have D0' := own_nlt D0
  obtain ⟨T218, h218, X218, e218, E218, A218, D218, -, st218⟩ := newO X0 hx hZ hown (wd 1 rfl) (wd 2 rfl) (wd 3 rfl) e0 (g := (mkF m 10 #[.val (.int cnt), .val (.int fl), .val (.long r1), .second, .val (.long r2), .second, .val (.long r3), .second, .val (.int (3 : Int32)), .unset, .unset, .unset, .unset, .unset, .unset, .unset, .unset, .unset, .unset, .unset, .unset] [])) rfl (hb hby at_10) (by decide) (by decide)
  obtain ⟨b218, g218⟩ : ∃ z, z = h0.size := ⟨_, rfl⟩
  rw [← g218] at A218 D218 st218
  have hi218 := own_nlt A218.lt
  have sz218 := E218.1
  have F218_algorithm : Fld Z h218 b218 "com/example/wombat/wombat/rules/RateLimit" "algorithm" "Lcom/example/wombat/wombat/rules/Algorithm;" .null := D218 (Or.inr (wd 24 rfl)) (ty := (.object "com/example/wombat/wombat/rules/Algorithm")) (by decide)
  have F218_unit : Fld Z h218 b218 "com/example/wombat/wombat/rules/RateLimit" "unit" "Lcom/example/wombat/wombat/rules/Unit;" .null := D218 (Or.inr (wd 26 rfl)) (ty := (.object "com/example/wombat/wombat/rules/Unit")) (by decide)
  have F218_requestsPerUnit : Fld Z h218 b218 "com/example/wombat/wombat/rules/RateLimit" "requestsPerUnit" "J" (.long (0 : Int64)) := D218 (Or.inr (wd 28 rfl)) (ty := .long) (by decide)
  have F218_bucketSize : Fld Z h218 b218 "com/example/wombat/wombat/rules/RateLimit" "bucketSize" "J" (.long (0 : Int64)) := D218 (Or.inr (wd 30 rfl)) (ty := .long) (by decide)
  have F218_storeTimeout : Fld Z h218 b218 "com/example/wombat/wombat/rules/RateLimit" "storeTimeout" "Ljava/time/Duration;" .null := D218 (Or.inr (wd 32 rfl)) (ty := (.object "java/time/Duration")) (by decide)
  have F218_onStoreFailure : Fld Z h218 b218 "com/example/wombat/wombat/rules/RateLimit" "onStoreFailure" "Lcom/example/wombat/wombat/rules/OnStoreFailure;" .null := D218 (Or.inr (wd 34 rfl)) (ty := (.object "com/example/wombat/wombat/rules/OnStoreFailure")) (by decide)
  refine go_of (B := (T218.setTop (mkF m 13 #[.val (.int cnt), .val (.int fl), .val (.long r1), .second, .val (.long r2), .second, .val (.long r3), .second, .val (.int (3 : Int32)), .unset, .unset, .unset, .unset, .unset, .unset, .unset, .unset, .unset, .unset, .unset, .unset] [(.ref b218)]))) (st218) ?_
  refine go_of (B := (T218.setTop (mkF m 18 #[.val (.int cnt), .val (.int fl), .val (.long r1), .second, .val (.long r2), .second, .val (.long r3), .second, .val (.int (3 : Int32)), .unset, .unset, .unset, .unset, .unset, .unset, .unset, .unset, .unset, .unset, .unset, .unset] [(.long r1), (.long r1), .null, .null, (.ref b218), (.ref b218)]))) (fun _ kk => XS.dup X218.here hx rfl (hb hby at_13) rfl rfl (XS.aconstNull X218.here hx rfl (hb hby at_14) (XS.aconstNull X218.here hx rfl (hb hby at_15) (XS.lloadN X218.here hx rfl (hb hby at_16) rfl (XS.lloadN X218.here hx rfl (hb hby at_17) rfl kk))))) ?_
  have cf_219 := (O.ext E218)
  obtain ⟨_, _, ⟨T220, L220, k220, n220⟩, -, X220, ⟨Lc220, hQ220, l220, y220, z220⟩, st220⟩ := X218.specialBack hx (y := MN5) rfl hown (mvT hZ (wd 4 rfl)) (mvT hZ (wd 5 rfl)) (mvT hZ (wd 6 rfl)) (by decide) (backOf (W := 1) (rl4 l Z a0 hw [] b218 r1 r1 _ _ _ _ _ _ wT wA h218 n0 (by omega) cf_219 ST SA A218 F218_algorithm F218_unit F218_requestsPerUnit F218_bucketSize F218_storeTimeout F218_onStoreFailure (by first | omega | exact own_ne (by omega) | exact own_le (by omega))) hZ (wd 6 rfl) (wd 3 rfl) (by decide) (by decide)) (g := (mkF m 18 #[.val (.int cnt), .val (.int fl), .val (.long r1), .second, .val (.long r2), .second, .val (.long r3), .second, .val (.int (3 : Int32)), .unset, .unset, .unset, .unset, .unset, .unset, .unset, .unset, .unset, .unset, .unset, .unset] [(.long r1), (.long r1), .null, .null, (.ref b218), (.ref b218)])) rfl (by rw [hml]; rfl) (Steps.refl _) (a := b218) (argsL := [.null, .null, (.long r1), (.long r1)]) (rest := [(.ref b218)]) (lenOf pd__Lcom_example_wombat_wombat_rules_Algorithm_Lcom_example_wombat_wombat_rules_Unit_JJ_V rfl) rfl (Nat.le_of_eq rfl) (hb hby at_18) (fun _ _ => ⟨rfl, e218, (by decide : 1 + 0 ≤ _), (by decide : 6 + 0 ≤ _)⟩)
  dsimp only [Pt.U, Pt.locs, Pt.cells, Pt.slots] at X220 l220 y220 z220 st220 hQ220
  subst l220 y220 z220
  obtain ⟨rfl, N220q, K220, A220⟩ := hQ220
  have N220 := Fr.app N0 N220q
  have sz220 := K220.1
  refine go_tr (B := (T220.setTop (mkF m 21 #[.val (.int cnt), .val (.int fl), .val (.long r1), .second, .val (.long r2), .second, .val (.long r3), .second, .val (.int (3 : Int32)), .unset, .unset, .unset, .unset, .unset, .unset, .unset, .unset, .unset, .unset, .unset, .unset] [(.ref b218)]))) (st220) ?_
  refine go_of (B := (T220.setTop (mkF m 23 #[.val (.int cnt), .val (.int fl), .val (.long r1), .second, .val (.long r2), .second, .val (.long r3), .second, .val (.int (3 : Int32)), .val (.ref b218), .unset, .unset, .unset, .unset, .unset, .unset, .unset, .unset, .unset, .unset, .unset] []))) (fun _ kk => XS.astore X220.here hx rfl (hb hby at_21) rfl rfl rfl kk) ?_
  obtain ⟨T221, h221, X221, e221, E221, A221, D221, -, st221⟩ := newO X220 hx hZ hown (wd 1 rfl) (wd 2 rfl) (wd 3 rfl) rfl (g := (mkF m 23 #[.val (.int cnt), .val (.int fl), .val (.long r1), .second, .val (.long r2), .second, .val (.long r3), .second, .val (.int (3 : Int32)), .val (.ref b218), .unset, .unset, .unset, .unset, .unset, .unset, .unset, .unset, .unset, .unset, .unset] [])) rfl (hb hby at_23) (by decide) (by decide)
  obtain ⟨b221, g221⟩ : ∃ z, z = T220.heap.size := ⟨_, rfl⟩
  rw [← g221] at A221 D221 st221
  have hi221 := own_nlt A221.lt
  have sz221 := E221.1
  have F221_algorithm : Fld Z h221 b221 "com/example/wombat/wombat/rules/RateLimit" "algorithm" "Lcom/example/wombat/wombat/rules/Algorithm;" .null := D221 (Or.inr (wd 24 rfl)) (ty := (.object "com/example/wombat/wombat/rules/Algorithm")) (by decide)
  have F221_unit : Fld Z h221 b221 "com/example/wombat/wombat/rules/RateLimit" "unit" "Lcom/example/wombat/wombat/rules/Unit;" .null := D221 (Or.inr (wd 26 rfl)) (ty := (.object "com/example/wombat/wombat/rules/Unit")) (by decide)
  have F221_requestsPerUnit : Fld Z h221 b221 "com/example/wombat/wombat/rules/RateLimit" "requestsPerUnit" "J" (.long (0 : Int64)) := D221 (Or.inr (wd 28 rfl)) (ty := .long) (by decide)
  have F221_bucketSize : Fld Z h221 b221 "com/example/wombat/wombat/rules/RateLimit" "bucketSize" "J" (.long (0 : Int64)) := D221 (Or.inr (wd 30 rfl)) (ty := .long) (by decide)
  have F221_storeTimeout : Fld Z h221 b221 "com/example/wombat/wombat/rules/RateLimit" "storeTimeout" "Ljava/time/Duration;" .null := D221 (Or.inr (wd 32 rfl)) (ty := (.object "java/time/Duration")) (by decide)
  have F221_onStoreFailure : Fld Z h221 b221 "com/example/wombat/wombat/rules/RateLimit" "onStoreFailure" "Lcom/example/wombat/wombat/rules/OnStoreFailure;" .null := D221 (Or.inr (wd 34 rfl)) (ty := (.object "com/example/wombat/wombat/rules/OnStoreFailure")) (by decide)
  refine go_of (B := (T221.setTop (mkF m 26 #[.val (.int cnt), .val (.int fl), .val (.long r1), .second, .val (.long r2), .second, .val (.long r3), .second, .val (.int (3 : Int32)), .val (.ref b218), .unset, .unset, .unset, .unset, .unset, .unset, .unset, .unset, .unset, .unset, .unset] [(.ref b221)]))) (st221) ?_
  refine go_of (B := (T221.setTop (mkF m 33 #[.val (.int cnt), .val (.int fl), .val (.long r1), .second, .val (.long r2), .second, .val (.long r3), .second, .val (.int (3 : Int32)), .val (.ref b218), .unset, .unset, .unset, .unset, .unset, .unset, .unset, .unset, .unset, .unset, .unset] [(.long r2), (.long r2), .null, .null, (.ref b221), (.ref b221)]))) (fun _ kk => XS.dup X221.here hx rfl (hb hby at_26) rfl rfl (XS.aconstNull X221.here hx rfl (hb hby at_27) (XS.aconstNull X221.here hx rfl (hb hby at_28) (XS.lload X221.here hx rfl (hb hby at_29) rfl (XS.lload X221.here hx rfl (hb hby at_31) rfl kk))))) ?_
  have cf_222 := ((cf_219.keep K220 (allS (by first | omega | exact own_ne (by omega) | exact own_le (by omega)) all0)).ext E221)
  obtain ⟨_, _, ⟨T223, L223, k223, n223⟩, -, X223, ⟨Lc223, hQ223, l223, y223, z223⟩, st223⟩ := X221.specialBack hx (y := MN5) rfl hown (mvT hZ (wd 4 rfl)) (mvT hZ (wd 5 rfl)) (mvT hZ (wd 6 rfl)) (by decide) (backOf (W := 1) (rl4 l Z a0 hw [] b221 r2 r2 _ _ _ _ _ _ wT wA h221 n0 (by omega) cf_222 ST SA A221 F221_algorithm F221_unit F221_requestsPerUnit F221_bucketSize F221_storeTimeout F221_onStoreFailure (by first | omega | exact own_ne (by omega) | exact own_le (by omega))) hZ (wd 6 rfl) (wd 3 rfl) (by decide) (by decide)) (g := (mkF m 33 #[.val (.int cnt), .val (.int fl), .val (.long r1), .second, .val (.long r2), .second, .val (.long r3), .second, .val (.int (3 : Int32)), .val (.ref b218), .unset, .unset, .unset, .unset, .unset, .unset, .unset, .unset, .unset, .unset, .unset] [(.long r2), (.long r2), .null, .null, (.ref b221), (.ref b221)])) rfl (by rw [hml]; rfl) (Steps.refl _) (a := b221) (argsL := [.null, .null, (.long r2), (.long r2)]) (rest := [(.ref b221)]) (lenOf pd__Lcom_example_wombat_wombat_rules_Algorithm_Lcom_example_wombat_wombat_rules_Unit_JJ_V rfl) rfl (Nat.le_of_eq rfl) (hb hby at_33) (fun _ _ => ⟨rfl, e221, (by decide : 2 + 0 ≤ _), (by decide : 12 + 0 ≤ _)⟩)
  dsimp only [Pt.U, Pt.locs, Pt.cells, Pt.slots] at X223 l223 y223 z223 st223 hQ223
  subst l223 y223 z223
  obtain ⟨rfl, N223q, K223, A223⟩ := hQ223
  have N223 := Fr.app N220 N223q
  have sz223 := K223.1
  refine go_tr (B := (T223.setTop (mkF m 36 #[.val (.int cnt), .val (.int fl), .val (.long r1), .second, .val (.long r2), .second, .val (.long r3), .second, .val (.int (3 : Int32)), .val (.ref b218), .unset, .unset, .unset, .unset, .unset, .unset, .unset, .unset, .unset, .unset, .unset] [(.ref b221)]))) (st223) ?_
  refine go_of (B := (T223.setTop (mkF m 38 #[.val (.int cnt), .val (.int fl), .val (.long r1), .second, .val (.long r2), .second, .val (.long r3), .second, .val (.int (3 : Int32)), .val (.ref b218), .val (.ref b221), .unset, .unset, .unset, .unset, .unset, .unset, .unset, .unset, .unset, .unset] []))) (fun _ kk => XS.astore X223.here hx rfl (hb hby at_36) rfl rfl rfl kk) ?_
  obtain ⟨T224, h224, X224, e224, E224, A224, D224, -, st224⟩ := newO X223 hx hZ hown (wd 1 rfl) (wd 2 rfl) (wd 3 rfl) rfl (g := (mkF m 38 #[.val (.int cnt), .val (.int fl), .val (.long r1), .second, .val (.long r2), .second, .val (.long r3), .second, .val (.int (3 : Int32)), .val (.ref b218), .val (.ref b221), .unset, .unset, .unset, .unset, .unset, .unset, .unset, .unset, .unset, .unset] [])) rfl (hb hby at_38) (by decide) (by decide)
  obtain ⟨b224, g224⟩ : ∃ z, z = T223.heap.size := ⟨_, rfl⟩
  rw [← g224] at A224 D224 st224
  have hi224 := own_nlt A224.lt
  have sz224 := E224.1
  have F224_algorithm : Fld Z h224 b224 "com/example/wombat/wombat/rules/RateLimit" "algorithm" "Lcom/example/wombat/wombat/rules/Algorithm;" .null := D224 (Or.inr (wd 24 rfl)) (ty := (.object "com/example/wombat/wombat/rules/Algorithm")) (by decide)
  have F224_unit : Fld Z h224 b224 "com/example/wombat/wombat/rules/RateLimit" "unit" "Lcom/example/wombat/wombat/rules/Unit;" .null := D224 (Or.inr (wd 26 rfl)) (ty := (.object "com/example/wombat/wombat/rules/Unit")) (by decide)
  have F224_requestsPerUnit : Fld Z h224 b224 "com/example/wombat/wombat/rules/RateLimit" "requestsPerUnit" "J" (.long (0 : Int64)) := D224 (Or.inr (wd 28 rfl)) (ty := .long) (by decide)
  have F224_bucketSize : Fld Z h224 b224 "com/example/wombat/wombat/rules/RateLimit" "bucketSize" "J" (.long (0 : Int64)) := D224 (Or.inr (wd 30 rfl)) (ty := .long) (by decide)
  have F224_storeTimeout : Fld Z h224 b224 "com/example/wombat/wombat/rules/RateLimit" "storeTimeout" "Ljava/time/Duration;" .null := D224 (Or.inr (wd 32 rfl)) (ty := (.object "java/time/Duration")) (by decide)
  have F224_onStoreFailure : Fld Z h224 b224 "com/example/wombat/wombat/rules/RateLimit" "onStoreFailure" "Lcom/example/wombat/wombat/rules/OnStoreFailure;" .null := D224 (Or.inr (wd 34 rfl)) (ty := (.object "com/example/wombat/wombat/rules/OnStoreFailure")) (by decide)
  refine go_of (B := (T224.setTop (mkF m 41 #[.val (.int cnt), .val (.int fl), .val (.long r1), .second, .val (.long r2), .second, .val (.long r3), .second, .val (.int (3 : Int32)), .val (.ref b218), .val (.ref b221), .unset, .unset, .unset, .unset, .unset, .unset, .unset, .unset, .unset, .unset] [(.ref b224)]))) (st224) ?_
  refine go_of (B := (T224.setTop (mkF m 48 #[.val (.int cnt), .val (.int fl), .val (.long r1), .second, .val (.long r2), .second, .val (.long r3), .second, .val (.int (3 : Int32)), .val (.ref b218), .val (.ref b221), .unset, .unset, .unset, .unset, .unset, .unset, .unset, .unset, .unset, .unset] [(.long r3), (.long r3), .null, .null, (.ref b224), (.ref b224)]))) (fun _ kk => XS.dup X224.here hx rfl (hb hby at_41) rfl rfl (XS.aconstNull X224.here hx rfl (hb hby at_42) (XS.aconstNull X224.here hx rfl (hb hby at_43) (XS.lload X224.here hx rfl (hb hby at_44) rfl (XS.lload X224.here hx rfl (hb hby at_46) rfl kk))))) ?_
  have cf_225 := ((cf_222.keep K223 (allS (by first | omega | exact own_ne (by omega) | exact own_le (by omega)) all0)).ext E224)
  obtain ⟨_, _, ⟨T226, L226, k226, n226⟩, -, X226, ⟨Lc226, hQ226, l226, y226, z226⟩, st226⟩ := X224.specialBack hx (y := MN5) rfl hown (mvT hZ (wd 4 rfl)) (mvT hZ (wd 5 rfl)) (mvT hZ (wd 6 rfl)) (by decide) (backOf (W := 1) (rl4 l Z a0 hw [] b224 r3 r3 _ _ _ _ _ _ wT wA h224 n0 (by omega) cf_225 ST SA A224 F224_algorithm F224_unit F224_requestsPerUnit F224_bucketSize F224_storeTimeout F224_onStoreFailure (by first | omega | exact own_ne (by omega) | exact own_le (by omega))) hZ (wd 6 rfl) (wd 3 rfl) (by decide) (by decide)) (g := (mkF m 48 #[.val (.int cnt), .val (.int fl), .val (.long r1), .second, .val (.long r2), .second, .val (.long r3), .second, .val (.int (3 : Int32)), .val (.ref b218), .val (.ref b221), .unset, .unset, .unset, .unset, .unset, .unset, .unset, .unset, .unset, .unset] [(.long r3), (.long r3), .null, .null, (.ref b224), (.ref b224)])) rfl (by rw [hml]; rfl) (Steps.refl _) (a := b224) (argsL := [.null, .null, (.long r3), (.long r3)]) (rest := [(.ref b224)]) (lenOf pd__Lcom_example_wombat_wombat_rules_Algorithm_Lcom_example_wombat_wombat_rules_Unit_JJ_V rfl) rfl (Nat.le_of_eq rfl) (hb hby at_48) (fun _ _ => ⟨rfl, e224, (by decide : 3 + 0 ≤ _), (by decide : 18 + 0 ≤ _)⟩)
  dsimp only [Pt.U, Pt.locs, Pt.cells, Pt.slots] at X226 l226 y226 z226 st226 hQ226
  subst l226 y226 z226
  obtain ⟨rfl, N226q, K226, A226⟩ := hQ226
  have N226 := Fr.app N223 N226q
  have sz226 := K226.1
  refine go_tr (B := (T226.setTop (mkF m 51 #[.val (.int cnt), .val (.int fl), .val (.long r1), .second, .val (.long r2), .second, .val (.long r3), .second, .val (.int (3 : Int32)), .val (.ref b218), .val (.ref b221), .unset, .unset, .unset, .unset, .unset, .unset, .unset, .unset, .unset, .unset] [(.ref b224)]))) (st226) ?_
  refine go_of (B := (T226.setTop (mkF m 53 #[.val (.int cnt), .val (.int fl), .val (.long r1), .second, .val (.long r2), .second, .val (.long r3), .second, .val (.int (3 : Int32)), .val (.ref b218), .val (.ref b221), .val (.ref b224), .unset, .unset, .unset, .unset, .unset, .unset, .unset, .unset, .unset] []))) (fun _ kk => XS.astore X226.here hx rfl (hb hby at_51) rfl rfl rfl kk) ?_
  obtain ⟨T227, h227, X227, e227, E227, A227, D227, -, st227⟩ := newO X226 hx hZ hown (wd 35 rfl) (wd 36 rfl) (wd 37 rfl) rfl (g := (mkF m 53 #[.val (.int cnt), .val (.int fl), .val (.long r1), .second, .val (.long r2), .second, .val (.long r3), .second, .val (.int (3 : Int32)), .val (.ref b218), .val (.ref b221), .val (.ref b224), .unset, .unset, .unset, .unset, .unset, .unset, .unset, .unset, .unset] [])) rfl (hb hby at_53) (by decide) (by decide)
  obtain ⟨b227, g227⟩ : ∃ z, z = T226.heap.size := ⟨_, rfl⟩
  rw [← g227] at A227 D227 st227
  have hi227 := own_nlt A227.lt
  have sz227 := E227.1
  have F227_key : Fld Z h227 b227 "com/example/wombat/wombat/rules/Descriptor" "key" "Ljava/lang/String;" .null := D227 (Or.inr (wd 83 rfl)) (ty := (.object "java/lang/String")) (by decide)
  have F227_value : Fld Z h227 b227 "com/example/wombat/wombat/rules/Descriptor" "value" "Ljava/lang/String;" .null := D227 (Or.inr (wd 85 rfl)) (ty := (.object "java/lang/String")) (by decide)
  have F227_rateLimit : Fld Z h227 b227 "com/example/wombat/wombat/rules/Descriptor" "rateLimit" "Lcom/example/wombat/wombat/rules/RateLimit;" .null := D227 (Or.inr (wd 87 rfl)) (ty := (.object "com/example/wombat/wombat/rules/RateLimit")) (by decide)
  have F227_descriptors : Fld Z h227 b227 "com/example/wombat/wombat/rules/Descriptor" "descriptors" "Ljava/util/List;" .null := D227 (Or.inr (wd 89 rfl)) (ty := (.object "java/util/List")) (by decide)
  refine go_of (B := (T227.setTop (mkF m 56 #[.val (.int cnt), .val (.int fl), .val (.long r1), .second, .val (.long r2), .second, .val (.long r3), .second, .val (.int (3 : Int32)), .val (.ref b218), .val (.ref b221), .val (.ref b224), .unset, .unset, .unset, .unset, .unset, .unset, .unset, .unset, .unset] [(.ref b227)]))) (st227) ?_
  refine go_of (B := (T227.setTop (mkF m 57 #[.val (.int cnt), .val (.int fl), .val (.long r1), .second, .val (.long r2), .second, .val (.long r3), .second, .val (.int (3 : Int32)), .val (.ref b218), .val (.ref b221), .val (.ref b224), .unset, .unset, .unset, .unset, .unset, .unset, .unset, .unset, .unset] [(.ref b227), (.ref b227)]))) (fun _ kk => XS.dup X227.here hx rfl (hb hby at_56) rfl rfl kk) ?_
  obtain ⟨b228, T228, h228, k228, X228, e228, E228, hS, hk228, hZ, hown, st228⟩ := ldcS X227 hx hZ hown (wd 38 rfl) (own_wS hw) e227 hS (by first | omega | exact own_ne (by omega) | exact own_le (by omega)) (g := (mkF m 57 #[.val (.int cnt), .val (.int fl), .val (.long r1), .second, .val (.long r2), .second, .val (.long r3), .second, .val (.int (3 : Int32)), .val (.ref b218), .val (.ref b221), .val (.ref b224), .unset, .unset, .unset, .unset, .unset, .unset, .unset, .unset, .unset] [(.ref b227), (.ref b227)])) rfl (hb hby at_57) (n := 4) (by decide) (by decide) (by decide) (by decide)
  have sz228 := E228.1
  refine go_of (B := (T228.setTop (mkF m 59 #[.val (.int cnt), .val (.int fl), .val (.long r1), .second, .val (.long r2), .second, .val (.long r3), .second, .val (.int (3 : Int32)), .val (.ref b218), .val (.ref b221), .val (.ref b224), .unset, .unset, .unset, .unset, .unset, .unset, .unset, .unset, .unset] [(.ref b228), (.ref b227), (.ref b227)]))) (st228) ?_
  refine go_of (B := (T228.setTop (mkF m 68 #[.val (.int cnt), .val (.int fl), .val (.long r1), .second, .val (.long r2), .second, .val (.long r3), .second, .val (.int (3 : Int32)), .val (.ref b218), .val (.ref b221), .val (.ref b224), .unset, .unset, .unset, .unset, .unset, .unset, .unset, .unset, .unset] [(.int (fl &&& (1 : Int32))), (.ref b228), (.ref b227), (.ref b227)]))) (fun _ kk => XS.iload X228.here hx rfl (hb hby at_59) rfl (XS.iconst X228.here hx rfl (hb hby at_61) (XS.icmpNo X228.here hx rfl (hb hby at_62) rfl (feq (by decide : ¬ ((3 : Int32) = (1 : Int32)))).1 (XS.iloadN X228.here hx rfl (hb hby at_65) rfl (XS.iconst X228.here hx rfl (hb hby at_66) (XS.iand X228.here hx rfl (hb hby at_67) rfl kk)))))) ?_
  by_cases hcc229 : (fl &&& (1 : Int32)) = (0 : Int32)
  · refine go_of (B := (T228.setTop (mkF m 77 #[.val (.int cnt), .val (.int fl), .val (.long r1), .second, .val (.long r2), .second, .val (.long r3), .second, .val (.int (3 : Int32)), .val (.ref b218), .val (.ref b221), .val (.ref b224), .unset, .unset, .unset, .unset, .unset, .unset, .unset, .unset, .unset] [.null, (.ref b228), (.ref b227), (.ref b227)]))) (fun _ kk => XS.ifYes X228.here hx rfl (pc0 := 68) (pc' := 76) rfl (hb hby at_68) rfl ((if0 _ _).trans (teq hcc229).1) (by decide) (by decide) (XS.aconstNull X228.here hx rfl (hb hby at_76) kk)) ?_
    have cf_230 := (((cf_225.keep K226 (allS (by first | omega | exact own_ne (by omega) | exact own_le (by omega)) all0)).ext E227).ext E228)
    have cf_231 := (A227.ext E228)
    have cf_232 := (F227_key.ext E228)
    have cf_233 := (F227_value.ext E228)
    have cf_234 := (F227_rateLimit.ext E228)
    have cf_235 := (F227_descriptors.ext E228)
    obtain ⟨_, _, ⟨T236, L236, k236, n236⟩, -, X236', hS236', gr236, ⟨Lc236, hQ236, l236, y236, z236⟩, st236⟩ := X228.specialBackS hx (y := MN0) rfl hown (mvT hZ (wd 46 rfl)) (mvT hZ (wd 47 rfl)) (mvT hZ (wd 48 rfl)) (by decide) (backOfS (W := 1) (ds2n l Z a0 hw [] b227 b228 wE _ _ _ _ h228 n0 (by omega) cf_230 SE EE FE cf_231 cf_232 cf_233 cf_234 cf_235 (by first | omega | exact own_ne (by omega) | exact own_le (by omega))) hZ (wd 48 rfl) (wd 37 rfl) (by decide) (by decide)) (g := (mkF m 77 #[.val (.int cnt), .val (.int fl), .val (.long r1), .second, .val (.long r2), .second, .val (.long r3), .second, .val (.int (3 : Int32)), .val (.ref b218), .val (.ref b221), .val (.ref b224), .unset, .unset, .unset, .unset, .unset, .unset, .unset, .unset, .unset] [.null, (.ref b228), (.ref b227), (.ref b227)])) rfl (by rw [hml]; rfl) (Steps.refl _) (a := b227) (argsL := [(.ref b228), .null]) (rest := [(.ref b227)]) (lenOf pd__Ljava_lang_String_Lcom_example_wombat_wombat_rules_RateLimit__V rfl) rfl (Nat.le_of_eq rfl) (hb hby at_77) (fun _ _ => ⟨rfl, e228, (by decide : 6 + 2 ≤ _), (by decide : 30 + 16 ≤ _)⟩)
    dsimp only [Pt.U, Pt.locs, Pt.cells, Pt.slots] at X236' hS236' gr236 l236 y236 z236 st236 hQ236
    subst l236 y236 z236
    have X236 : Stand _ _ _ _ (s.setVm T236.vm) _ _ _ _ _ T236 _ _ _ := X236'
    have hS : s.Since T236.vm T236.heap.size := foldS hS (by rw [e228]; omega) hS236' gr236
    have hZ : Z.Warmed39 (s.setVm T236.vm).vm := State.Warmed39.trans (t := s.setVm T228.vm) hZ hS236'.1
    have hown : (s.setVm T236.vm).vm.findClass "com/example/wombat/wombat/rules/LimitRateLimitPinLaw" = some m.cls := by rw [show (s.setVm T236.vm).vm = T236.vm from rfl, hS236'.1.alike.findClass]; exact hown
    obtain ⟨rfl, N236q, K236, A236⟩ := hQ236
    have N236 := Fr.app N226 N236q
    have sz236 := K236.1
    refine go_tr (B := (T236.setTop (mkF m 80 #[.val (.int cnt), .val (.int fl), .val (.long r1), .second, .val (.long r2), .second, .val (.long r3), .second, .val (.int (3 : Int32)), .val (.ref b218), .val (.ref b221), .val (.ref b224), .unset, .unset, .unset, .unset, .unset, .unset, .unset, .unset, .unset] [(.ref b227)]))) (st236) ?_
    refine go_of (B := (T236.setTop (mkF m 82 #[.val (.int cnt), .val (.int fl), .val (.long r1), .second, .val (.long r2), .second, .val (.long r3), .second, .val (.int (3 : Int32)), .val (.ref b218), .val (.ref b221), .val (.ref b224), .val (.ref b227), .unset, .unset, .unset, .unset, .unset, .unset, .unset, .unset] []))) (fun _ kk => XS.astore X236.here hx rfl (hb hby at_80) rfl rfl rfl kk) ?_
    obtain ⟨T237, h237, X237, e237, E237, A237, D237, -, st237⟩ := newO X236 hx hZ hown (wd 35 rfl) (wd 36 rfl) (wd 37 rfl) rfl (g := (mkF m 82 #[.val (.int cnt), .val (.int fl), .val (.long r1), .second, .val (.long r2), .second, .val (.long r3), .second, .val (.int (3 : Int32)), .val (.ref b218), .val (.ref b221), .val (.ref b224), .val (.ref b227), .unset, .unset, .unset, .unset, .unset, .unset, .unset, .unset] [])) rfl (hb hby at_82) (by decide) (by decide)
    obtain ⟨b237, g237⟩ : ∃ z, z = T236.heap.size := ⟨_, rfl⟩
    rw [← g237] at A237 D237 st237
    have hi237 := own_nlt A237.lt
    have sz237 := E237.1
    have F237_key : Fld Z h237 b237 "com/example/wombat/wombat/rules/Descriptor" "key" "Ljava/lang/String;" .null := D237 (Or.inr (wd 83 rfl)) (ty := (.object "java/lang/String")) (by decide)
    have F237_value : Fld Z h237 b237 "com/example/wombat/wombat/rules/Descriptor" "value" "Ljava/lang/String;" .null := D237 (Or.inr (wd 85 rfl)) (ty := (.object "java/lang/String")) (by decide)
    have F237_rateLimit : Fld Z h237 b237 "com/example/wombat/wombat/rules/Descriptor" "rateLimit" "Lcom/example/wombat/wombat/rules/RateLimit;" .null := D237 (Or.inr (wd 87 rfl)) (ty := (.object "com/example/wombat/wombat/rules/RateLimit")) (by decide)
    have F237_descriptors : Fld Z h237 b237 "com/example/wombat/wombat/rules/Descriptor" "descriptors" "Ljava/util/List;" .null := D237 (Or.inr (wd 89 rfl)) (ty := (.object "java/util/List")) (by decide)
    refine go_of (B := (T237.setTop (mkF m 85 #[.val (.int cnt), .val (.int fl), .val (.long r1), .second, .val (.long r2), .second, .val (.long r3), .second, .val (.int (3 : Int32)), .val (.ref b218), .val (.ref b221), .val (.ref b224), .val (.ref b227), .unset, .unset, .unset, .unset, .unset, .unset, .unset, .unset] [(.ref b237)]))) (st237) ?_
    refine go_of (B := (T237.setTop (mkF m 86 #[.val (.int cnt), .val (.int fl), .val (.long r1), .second, .val (.long r2), .second, .val (.long r3), .second, .val (.int (3 : Int32)), .val (.ref b218), .val (.ref b221), .val (.ref b224), .val (.ref b227), .unset, .unset, .unset, .unset, .unset, .unset, .unset, .unset] [(.ref b237), (.ref b237)]))) (fun _ kk => XS.dup X237.here hx rfl (hb hby at_85) rfl rfl kk) ?_
    obtain ⟨b238, T238, h238, k238, X238, e238, E238, hS, hk238, hZ, hown, st238⟩ := ldcS X237 hx hZ hown (wd 90 rfl) (own_wS hw) e237 hS (by first | omega | exact own_ne (by omega) | exact own_le (by omega)) (g := (mkF m 86 #[.val (.int cnt), .val (.int fl), .val (.long r1), .second, .val (.long r2), .second, .val (.long r3), .second, .val (.int (3 : Int32)), .val (.ref b218), .val (.ref b221), .val (.ref b224), .val (.ref b227), .unset, .unset, .unset, .unset, .unset, .unset, .unset, .unset] [(.ref b237), (.ref b237)])) rfl (hb hby at_86) (n := 4) (by decide) (by decide) (by decide) (by decide)
    have sz238 := E238.1
    refine go_of (B := (T238.setTop (mkF m 88 #[.val (.int cnt), .val (.int fl), .val (.long r1), .second, .val (.long r2), .second, .val (.long r3), .second, .val (.int (3 : Int32)), .val (.ref b218), .val (.ref b221), .val (.ref b224), .val (.ref b227), .unset, .unset, .unset, .unset, .unset, .unset, .unset, .unset] [(.ref b238), (.ref b237), (.ref b237)]))) (st238) ?_
    refine go_of (B := (T238.setTop (mkF m 97 #[.val (.int cnt), .val (.int fl), .val (.long r1), .second, .val (.long r2), .second, .val (.long r3), .second, .val (.int (3 : Int32)), .val (.ref b218), .val (.ref b221), .val (.ref b224), .val (.ref b227), .unset, .unset, .unset, .unset, .unset, .unset, .unset, .unset] [(.int (fl &&& (2 : Int32))), (.ref b238), (.ref b237), (.ref b237)]))) (fun _ kk => XS.iload X238.here hx rfl (hb hby at_88) rfl (XS.iconst X238.here hx rfl (hb hby at_90) (XS.icmpNo X238.here hx rfl (hb hby at_91) rfl (feq (by decide : ¬ ((3 : Int32) = (2 : Int32)))).1 (XS.iloadN X238.here hx rfl (hb hby at_94) rfl (XS.iconst X238.here hx rfl (hb hby at_95) (XS.iand X238.here hx rfl (hb hby at_96) rfl kk)))))) ?_
    by_cases hcc239 : (fl &&& (2 : Int32)) = (0 : Int32)
    · refine go_of (B := (T238.setTop (mkF m 106 #[.val (.int cnt), .val (.int fl), .val (.long r1), .second, .val (.long r2), .second, .val (.long r3), .second, .val (.int (3 : Int32)), .val (.ref b218), .val (.ref b221), .val (.ref b224), .val (.ref b227), .unset, .unset, .unset, .unset, .unset, .unset, .unset, .unset] [.null, (.ref b238), (.ref b237), (.ref b237)]))) (fun _ kk => XS.ifYes X238.here hx rfl (pc0 := 97) (pc' := 105) rfl (hb hby at_97) rfl ((if0 _ _).trans (teq hcc239).1) (by decide) (by decide) (XS.aconstNull X238.here hx rfl (hb hby at_105) kk)) ?_
      have cf_240 := (((cf_230.keep K236 (allS (by first | omega | exact own_ne (by omega) | exact own_le (by omega)) all0)).ext E237).ext E238)
      have cf_241 := (A237.ext E238)
      have cf_242 := (F237_key.ext E238)
      have cf_243 := (F237_value.ext E238)
      have cf_244 := (F237_rateLimit.ext E238)
      have cf_245 := (F237_descriptors.ext E238)
      obtain ⟨_, _, ⟨T246, L246, k246, n246⟩, -, X246', hS246', gr246, ⟨Lc246, hQ246, l246, y246, z246⟩, st246⟩ := X238.specialBackS hx (y := MN0) rfl hown (mvT hZ (wd 46 rfl)) (mvT hZ (wd 47 rfl)) (mvT hZ (wd 48 rfl)) (by decide) (backOfS (W := 1) (ds2n l Z a0 hw [] b237 b238 wE _ _ _ _ h238 n0 (by omega) cf_240 SE EE FE cf_241 cf_242 cf_243 cf_244 cf_245 (by first | omega | exact own_ne (by omega) | exact own_le (by omega))) hZ (wd 48 rfl) (wd 37 rfl) (by decide) (by decide)) (g := (mkF m 106 #[.val (.int cnt), .val (.int fl), .val (.long r1), .second, .val (.long r2), .second, .val (.long r3), .second, .val (.int (3 : Int32)), .val (.ref b218), .val (.ref b221), .val (.ref b224), .val (.ref b227), .unset, .unset, .unset, .unset, .unset, .unset, .unset, .unset] [.null, (.ref b238), (.ref b237), (.ref b237)])) rfl (by rw [hml]; rfl) (Steps.refl _) (a := b237) (argsL := [(.ref b238), .null]) (rest := [(.ref b237)]) (lenOf pd__Ljava_lang_String_Lcom_example_wombat_wombat_rules_RateLimit__V rfl) rfl (Nat.le_of_eq rfl) (hb hby at_106) (fun _ _ => ⟨rfl, e238, (by decide : 11 + 2 ≤ _), (by decide : 58 + 16 ≤ _)⟩)
      dsimp only [Pt.U, Pt.locs, Pt.cells, Pt.slots] at X246' hS246' gr246 l246 y246 z246 st246 hQ246
      subst l246 y246 z246
      have X246 : Stand _ _ _ _ (s.setVm T246.vm) _ _ _ _ _ T246 _ _ _ := X246'
      have hS : s.Since T246.vm T246.heap.size := foldS hS (by rw [e238]; omega) hS246' gr246
      have hZ : Z.Warmed39 (s.setVm T246.vm).vm := State.Warmed39.trans (t := s.setVm T238.vm) hZ hS246'.1
      have hown : (s.setVm T246.vm).vm.findClass "com/example/wombat/wombat/rules/LimitRateLimitPinLaw" = some m.cls := by rw [show (s.setVm T246.vm).vm = T246.vm from rfl, hS246'.1.alike.findClass]; exact hown
      obtain ⟨rfl, N246q, K246, A246⟩ := hQ246
      have N246 := Fr.app N236 N246q
      have sz246 := K246.1
      refine go_tr (B := (T246.setTop (mkF m 109 #[.val (.int cnt), .val (.int fl), .val (.long r1), .second, .val (.long r2), .second, .val (.long r3), .second, .val (.int (3 : Int32)), .val (.ref b218), .val (.ref b221), .val (.ref b224), .val (.ref b227), .unset, .unset, .unset, .unset, .unset, .unset, .unset, .unset] [(.ref b237)]))) (st246) ?_
      refine go_of (B := (T246.setTop (mkF m 111 #[.val (.int cnt), .val (.int fl), .val (.long r1), .second, .val (.long r2), .second, .val (.long r3), .second, .val (.int (3 : Int32)), .val (.ref b218), .val (.ref b221), .val (.ref b224), .val (.ref b227), .val (.ref b237), .unset, .unset, .unset, .unset, .unset, .unset, .unset] []))) (fun _ kk => XS.astore X246.here hx rfl (hb hby at_109) rfl rfl rfl kk) ?_
      obtain ⟨T247, h247, X247, e247, E247, A247, D247, -, st247⟩ := newO X246 hx hZ hown (wd 35 rfl) (wd 36 rfl) (wd 37 rfl) rfl (g := (mkF m 111 #[.val (.int cnt), .val (.int fl), .val (.long r1), .second, .val (.long r2), .second, .val (.long r3), .second, .val (.int (3 : Int32)), .val (.ref b218), .val (.ref b221), .val (.ref b224), .val (.ref b227), .val (.ref b237), .unset, .unset, .unset, .unset, .unset, .unset, .unset] [])) rfl (hb hby at_111) (by decide) (by decide)
      obtain ⟨b247, g247⟩ : ∃ z, z = T246.heap.size := ⟨_, rfl⟩
      rw [← g247] at A247 D247 st247
      have hi247 := own_nlt A247.lt
      have sz247 := E247.1
      have F247_key : Fld Z h247 b247 "com/example/wombat/wombat/rules/Descriptor" "key" "Ljava/lang/String;" .null := D247 (Or.inr (wd 83 rfl)) (ty := (.object "java/lang/String")) (by decide)
      have F247_value : Fld Z h247 b247 "com/example/wombat/wombat/rules/Descriptor" "value" "Ljava/lang/String;" .null := D247 (Or.inr (wd 85 rfl)) (ty := (.object "java/lang/String")) (by decide)
      have F247_rateLimit : Fld Z h247 b247 "com/example/wombat/wombat/rules/Descriptor" "rateLimit" "Lcom/example/wombat/wombat/rules/RateLimit;" .null := D247 (Or.inr (wd 87 rfl)) (ty := (.object "com/example/wombat/wombat/rules/RateLimit")) (by decide)
      have F247_descriptors : Fld Z h247 b247 "com/example/wombat/wombat/rules/Descriptor" "descriptors" "Ljava/util/List;" .null := D247 (Or.inr (wd 89 rfl)) (ty := (.object "java/util/List")) (by decide)
      refine go_of (B := (T247.setTop (mkF m 114 #[.val (.int cnt), .val (.int fl), .val (.long r1), .second, .val (.long r2), .second, .val (.long r3), .second, .val (.int (3 : Int32)), .val (.ref b218), .val (.ref b221), .val (.ref b224), .val (.ref b227), .val (.ref b237), .unset, .unset, .unset, .unset, .unset, .unset, .unset] [(.ref b247)]))) (st247) ?_
      refine go_of (B := (T247.setTop (mkF m 115 #[.val (.int cnt), .val (.int fl), .val (.long r1), .second, .val (.long r2), .second, .val (.long r3), .second, .val (.int (3 : Int32)), .val (.ref b218), .val (.ref b221), .val (.ref b224), .val (.ref b227), .val (.ref b237), .unset, .unset, .unset, .unset, .unset, .unset, .unset] [(.ref b247), (.ref b247)]))) (fun _ kk => XS.dup X247.here hx rfl (hb hby at_114) rfl rfl kk) ?_
      obtain ⟨b248, T248, h248, k248, X248, e248, E248, hS, hk248, hZ, hown, st248⟩ := ldcS X247 hx hZ hown (wd 91 rfl) (own_wS hw) e247 hS (by first | omega | exact own_ne (by omega) | exact own_le (by omega)) (g := (mkF m 115 #[.val (.int cnt), .val (.int fl), .val (.long r1), .second, .val (.long r2), .second, .val (.long r3), .second, .val (.int (3 : Int32)), .val (.ref b218), .val (.ref b221), .val (.ref b224), .val (.ref b227), .val (.ref b237), .unset, .unset, .unset, .unset, .unset, .unset, .unset] [(.ref b247), (.ref b247)])) rfl (hb hby at_115) (n := 4) (by decide) (by decide) (by decide) (by decide)
      have sz248 := E248.1
      refine go_of (B := (T248.setTop (mkF m 117 #[.val (.int cnt), .val (.int fl), .val (.long r1), .second, .val (.long r2), .second, .val (.long r3), .second, .val (.int (3 : Int32)), .val (.ref b218), .val (.ref b221), .val (.ref b224), .val (.ref b227), .val (.ref b237), .unset, .unset, .unset, .unset, .unset, .unset, .unset] [(.ref b248), (.ref b247), (.ref b247)]))) (st248) ?_
      refine go_of (B := (T248.setTop (mkF m 119 #[.val (.int cnt), .val (.int fl), .val (.long r1), .second, .val (.long r2), .second, .val (.long r3), .second, .val (.int (3 : Int32)), .val (.ref b218), .val (.ref b221), .val (.ref b224), .val (.ref b227), .val (.ref b237), .unset, .unset, .unset, .unset, .unset, .unset, .unset] [(.ref b224), (.ref b248), (.ref b247), (.ref b247)]))) (fun _ kk => XS.aload X248.here hx rfl (hb hby at_117) rfl rfl kk) ?_
      have cf_249 := (((cf_240.keep K246 (allS (by first | omega | exact own_ne (by omega) | exact own_le (by omega)) all0)).ext E247).ext E248)
      have cf_250 := (A247.ext E248)
      have cf_251 := (F247_key.ext E248)
      have cf_252 := (F247_value.ext E248)
      have cf_253 := (F247_rateLimit.ext E248)
      have cf_254 := (F247_descriptors.ext E248)
      obtain ⟨_, _, ⟨T255, L255, k255, n255⟩, -, X255', hS255', gr255, ⟨Lc255, hQ255, l255, y255, z255⟩, st255⟩ := X248.specialBackS hx (y := MN0) rfl hown (mvT hZ (wd 46 rfl)) (mvT hZ (wd 47 rfl)) (mvT hZ (wd 48 rfl)) (by decide) (backOfS (W := 1) (ds2r l Z a0 hw [] b247 b248 b224 wE _ _ _ _ h248 n0 (by omega) cf_249 SE EE FE cf_250 cf_251 cf_252 cf_253 cf_254 (by first | omega | exact own_ne (by omega) | exact own_le (by omega))) hZ (wd 48 rfl) (wd 37 rfl) (by decide) (by decide)) (g := (mkF m 119 #[.val (.int cnt), .val (.int fl), .val (.long r1), .second, .val (.long r2), .second, .val (.long r3), .second, .val (.int (3 : Int32)), .val (.ref b218), .val (.ref b221), .val (.ref b224), .val (.ref b227), .val (.ref b237), .unset, .unset, .unset, .unset, .unset, .unset, .unset] [(.ref b224), (.ref b248), (.ref b247), (.ref b247)])) rfl (by rw [hml]; rfl) (Steps.refl _) (a := b247) (argsL := [(.ref b248), (.ref b224)]) (rest := [(.ref b247)]) (lenOf pd__Ljava_lang_String_Lcom_example_wombat_wombat_rules_RateLimit__V rfl) rfl (Nat.le_of_eq rfl) (hb hby at_119) (fun _ _ => ⟨rfl, e248, (by decide : 16 + 2 ≤ _), (by decide : 86 + 16 ≤ _)⟩)
      dsimp only [Pt.U, Pt.locs, Pt.cells, Pt.slots] at X255' hS255' gr255 l255 y255 z255 st255 hQ255
      subst l255 y255 z255
      have X255 : Stand _ _ _ _ (s.setVm T255.vm) _ _ _ _ _ T255 _ _ _ := X255'
      have hS : s.Since T255.vm T255.heap.size := foldS hS (by rw [e248]; omega) hS255' gr255
      have hZ : Z.Warmed39 (s.setVm T255.vm).vm := State.Warmed39.trans (t := s.setVm T248.vm) hZ hS255'.1
      have hown : (s.setVm T255.vm).vm.findClass "com/example/wombat/wombat/rules/LimitRateLimitPinLaw" = some m.cls := by rw [show (s.setVm T255.vm).vm = T255.vm from rfl, hS255'.1.alike.findClass]; exact hown
      obtain ⟨rfl, N255q, K255, A255⟩ := hQ255
      have N255 := Fr.app N246 N255q
      have sz255 := K255.1
      refine go_tr (B := (T255.setTop (mkF m 122 #[.val (.int cnt), .val (.int fl), .val (.long r1), .second, .val (.long r2), .second, .val (.long r3), .second, .val (.int (3 : Int32)), .val (.ref b218), .val (.ref b221), .val (.ref b224), .val (.ref b227), .val (.ref b237), .unset, .unset, .unset, .unset, .unset, .unset, .unset] [(.ref b247)]))) (st255) ?_
      refine go_of (B := (T255.setTop (mkF m 124 #[.val (.int cnt), .val (.int fl), .val (.long r1), .second, .val (.long r2), .second, .val (.long r3), .second, .val (.int (3 : Int32)), .val (.ref b218), .val (.ref b221), .val (.ref b224), .val (.ref b227), .val (.ref b237), .val (.ref b247), .unset, .unset, .unset, .unset, .unset, .unset] []))) (fun _ kk => XS.astore X255.here hx rfl (hb hby at_122) rfl rfl rfl kk) ?_
      obtain ⟨T256, h256, X256, e256, E256, A256, D256, -, st256⟩ := newO X255 hx hZ hown (wd 92 rfl) (wd 93 rfl) (wd 94 rfl) rfl (g := (mkF m 124 #[.val (.int cnt), .val (.int fl), .val (.long r1), .second, .val (.long r2), .second, .val (.long r3), .second, .val (.int (3 : Int32)), .val (.ref b218), .val (.ref b221), .val (.ref b224), .val (.ref b227), .val (.ref b237), .val (.ref b247), .unset, .unset, .unset, .unset, .unset, .unset] [])) rfl (hb hby at_124) (by decide) (by decide)
      obtain ⟨b256, g256⟩ : ∃ z, z = T255.heap.size := ⟨_, rfl⟩
      rw [← g256] at A256 D256 st256
      have hi256 := own_nlt A256.lt
      have sz256 := E256.1
      have F256_modCount : Fld Z h256 b256 "java/util/AbstractList" "modCount" "I" (.int (0 : Int32)) := D256 (Or.inl (wd 112 rfl)) (ty := .int) (by decide)
      have F256_elementData : Fld Z h256 b256 "java/util/ArrayList" "elementData" "[Ljava/lang/Object;" .null := D256 (Or.inl (wd 115 rfl)) (ty := (.array (.object "java/lang/Object"))) (by decide)
      have F256_size : Fld Z h256 b256 "java/util/ArrayList" "size" "I" (.int (0 : Int32)) := D256 (Or.inl (wd 124 rfl)) (ty := .int) (by decide)
      refine go_of (B := (T256.setTop (mkF m 127 #[.val (.int cnt), .val (.int fl), .val (.long r1), .second, .val (.long r2), .second, .val (.long r3), .second, .val (.int (3 : Int32)), .val (.ref b218), .val (.ref b221), .val (.ref b224), .val (.ref b227), .val (.ref b237), .val (.ref b247), .unset, .unset, .unset, .unset, .unset, .unset] [(.ref b256)]))) (st256) ?_
      refine go_of (B := (T256.setTop (mkF m 128 #[.val (.int cnt), .val (.int fl), .val (.long r1), .second, .val (.long r2), .second, .val (.long r3), .second, .val (.int (3 : Int32)), .val (.ref b218), .val (.ref b221), .val (.ref b224), .val (.ref b227), .val (.ref b237), .val (.ref b247), .unset, .unset, .unset, .unset, .unset, .unset] [(.ref b256), (.ref b256)]))) (fun _ kk => XS.dup X256.here hx rfl (hb hby at_127) rfl rfl kk) ?_
      have cf_257 := ((cf_249.keep K255 (allS (by first | omega | exact own_ne (by omega) | exact own_le (by omega)) all0)).ext E256)
      obtain ⟨_, _, ⟨T258, L258, k258, n258⟩, -, X258, ⟨Lc258, hQ258, l258, y258, z258⟩, st258⟩ := X256.specialBack hx (y := MN10) rfl hown (mvT hZ (wd 95 rfl)) (mvT hZ (wd 96 rfl)) (mvT hZ (wd 97 rfl)) (by decide) (backOf (W := 1) (rm11 l Z a0 hw [] b256 _ _ wD h256 n0 (by omega) A256 F256_modCount F256_elementData F256_size (by first | omega | exact own_ne (by omega) | exact own_le (by omega)) cf_257 SD) hZ (wd 97 rfl) (wd 94 rfl) (by decide) (by decide)) (g := (mkF m 128 #[.val (.int cnt), .val (.int fl), .val (.long r1), .second, .val (.long r2), .second, .val (.long r3), .second, .val (.int (3 : Int32)), .val (.ref b218), .val (.ref b221), .val (.ref b224), .val (.ref b227), .val (.ref b237), .val (.ref b247), .unset, .unset, .unset, .unset, .unset, .unset] [(.ref b256), (.ref b256)])) rfl (by rw [hml]; rfl) (Steps.refl _) (a := b256) (argsL := []) (rest := [(.ref b256)]) (lenOf pd___V rfl) rfl (Nat.le_of_eq rfl) (hb hby at_128) (fun _ _ => ⟨rfl, e256, (by decide : 19 + 0 ≤ _), (by decide : 105 + 0 ≤ _)⟩)
      dsimp only [Pt.U, Pt.locs, Pt.cells, Pt.slots] at X258 l258 y258 z258 st258 hQ258
      subst l258 y258 z258
      obtain ⟨rfl, N258q, K258, A258⟩ := hQ258
      have N258 := Fr.app N255 N258q
      have sz258 := K258.1
      refine go_tr (B := (T258.setTop (mkF m 131 #[.val (.int cnt), .val (.int fl), .val (.long r1), .second, .val (.long r2), .second, .val (.long r3), .second, .val (.int (3 : Int32)), .val (.ref b218), .val (.ref b221), .val (.ref b224), .val (.ref b227), .val (.ref b237), .val (.ref b247), .unset, .unset, .unset, .unset, .unset, .unset] [(.ref b256)]))) (st258) ?_
      refine go_of (B := (T258.setTop (mkF m 137 #[.val (.int cnt), .val (.int fl), .val (.long r1), .second, .val (.long r2), .second, .val (.long r3), .second, .val (.int (3 : Int32)), .val (.ref b218), .val (.ref b221), .val (.ref b224), .val (.ref b227), .val (.ref b237), .val (.ref b247), .val (.ref b256), .unset, .unset, .unset, .unset, .unset] [(.ref b227), (.ref b256)]))) (fun _ kk => XS.astore X258.here hx rfl (hb hby at_131) rfl rfl rfl (XS.aload X258.here hx rfl (hb hby at_133) rfl rfl (XS.aload X258.here hx rfl (hb hby at_135) rfl rfl kk))) ?_
      have cf_259 := (cf_257.keep K258 (allS (by first | omega | exact own_ne (by omega) | exact own_le (by omega)) all0))
      have cf_260 := ((((((((A236.1.ext E237).ext E238).keep K246).ext E247).ext E248).keep K255).ext E256).keep K258)
      obtain ⟨cq261, kq261, q261a, q261b, q261c⟩ := isOf hZ rfl A258.1
      obtain ⟨_, _, ⟨T261, L261, k261, n261⟩, -, X261, ⟨Lc261, hQ261, l261, y261, z261⟩, st261⟩ := X258.virtualBack hx (y := MN11) (z := MN11) hown (mvT hZ (wd 116 rfl)) (mvT hZ (wd 117 rfl)) (notFace_of_selects (args := #[]) (mvT hZ (wd 119 rfl))) (mvT hZ (wd 119 rfl)) (mvT hZ (wd 118 rfl)) (by decide) (backOf (W := 0) (add0 l Z a0 hw [] b256 b227 (0 : Int32) wD kD T258.heap n0 (by omega) ⟨A258.1, A258.2.1, A258.2.2.1, A258.2.2.2⟩ (by first | omega | exact own_ne (by omega) | exact own_le (by omega)) cf_259 SD (VD.ext cf_259.2) D0 (Ins.of_exa cf_260 (wd 146 rfl))) hZ (wd 120 rfl) (wd 94 rfl) (by decide) (by decide)) q261a q261c (g := (mkF m 137 #[.val (.int cnt), .val (.int fl), .val (.long r1), .second, .val (.long r2), .second, .val (.long r3), .second, .val (.int (3 : Int32)), .val (.ref b218), .val (.ref b221), .val (.ref b224), .val (.ref b227), .val (.ref b237), .val (.ref b247), .val (.ref b256), .unset, .unset, .unset, .unset, .unset] [(.ref b227), (.ref b256)])) rfl (by rw [hml]; rfl) (Steps.refl _) (argsL := [(.ref b227)]) (rest := []) (lenOf pd__Ljava_lang_Object__Z rfl) rfl (Nat.le_of_eq rfl) (hb hby at_137) (fun _ _ => ⟨rfl, rfl, (by decide : 19 + 1 ≤ _), (by decide : 105 + 10 ≤ _)⟩)
      dsimp only [Pt.U, Pt.locs, Pt.cells, Pt.slots] at X261 l261 y261 z261 st261 hQ261
      subst l261 y261 z261
      obtain ⟨b261, k261, rfl, N261q, lo261, K261, A261, V261, O261, XE261⟩ := hQ261
      have lo261 := own_nle lo261
      have N261 := Fr.app N258 N261q
      have hi261 := own_nlt (V261.lt)
      have sz261 := K261.1
      refine go_tr (B := (T261.setTop (mkF m 140 #[.val (.int cnt), .val (.int fl), .val (.long r1), .second, .val (.long r2), .second, .val (.long r3), .second, .val (.int (3 : Int32)), .val (.ref b218), .val (.ref b221), .val (.ref b224), .val (.ref b227), .val (.ref b237), .val (.ref b247), .val (.ref b256), .unset, .unset, .unset, .unset, .unset] [(.int (1 : Int32))]))) (st261) ?_
      refine go_of (B := (T261.setTop (mkF m 151 #[.val (.int cnt), .val (.int fl), .val (.long r1), .second, .val (.long r2), .second, .val (.long r3), .second, .val (.int (3 : Int32)), .val (.ref b218), .val (.ref b221), .val (.ref b224), .val (.ref b227), .val (.ref b237), .val (.ref b247), .val (.ref b256), .unset, .unset, .unset, .unset, .unset] [(.ref b237), (.ref b256)]))) (fun _ kk => XS.pop X261.here hx rfl (hb hby at_140) rfl rfl (XS.iload X261.here hx rfl (hb hby at_141) rfl (XS.iconst X261.here hx rfl (hb hby at_143) (XS.icmpNo X261.here hx rfl (hb hby at_144) rfl (flt (by decide : ¬ ((3 : Int32) < (2 : Int32)))).1 (XS.aload X261.here hx rfl (hb hby at_147) rfl rfl (XS.aload X261.here hx rfl (hb hby at_149) rfl rfl kk)))))) ?_
      have cf_262 := ((((((A246.1.ext E247).ext E248).keep K255).ext E256).keep K258).keep K261)
      obtain ⟨cq263, kq263, q263a, q263b, q263c⟩ := isOf hZ rfl A261.1
      obtain ⟨_, _, ⟨T263, L263, k263, n263⟩, -, X263, ⟨Lc263, hQ263, l263, y263, z263⟩, st263⟩ := X261.virtualBack hx (y := MN11) (z := MN11) hown (mvT hZ (wd 116 rfl)) (mvT hZ (wd 117 rfl)) (notFace_of_selects (args := #[]) (mvT hZ (wd 119 rfl))) (mvT hZ (wd 119 rfl)) (mvT hZ (wd 118 rfl)) (by decide) (backOf (W := 0) (add1 l Z a0 hw [] b256 b237 b261 ((0 : Int32) + (1 : Int32)) k261 b227 T261.heap n0 (by omega) ⟨A261.1, A261.2.1, A261.2.2.1, A261.2.2.2⟩ (by first | omega | exact own_ne (by omega) | exact own_le (by omega)) (by first | omega | exact own_ne (by omega) | exact own_le (by omega)) V261 O261 (Ins.of_exa cf_262 (wd 146 rfl)) (by first | omega | exact own_ne (by omega) | exact own_le (by omega))) hZ (wd 120 rfl) (wd 94 rfl) (by decide) (by decide)) q263a q263c (g := (mkF m 151 #[.val (.int cnt), .val (.int fl), .val (.long r1), .second, .val (.long r2), .second, .val (.long r3), .second, .val (.int (3 : Int32)), .val (.ref b218), .val (.ref b221), .val (.ref b224), .val (.ref b227), .val (.ref b237), .val (.ref b247), .val (.ref b256), .unset, .unset, .unset, .unset, .unset] [(.ref b237), (.ref b256)])) rfl (by rw [hml]; rfl) (Steps.refl _) (argsL := [(.ref b237)]) (rest := []) (lenOf pd__Ljava_lang_Object__Z rfl) rfl (Nat.le_of_eq rfl) (hb hby at_151) (fun _ _ => ⟨rfl, rfl, (by decide : 20 + 0 ≤ _), (by decide : 115 + 0 ≤ _)⟩)
      dsimp only [Pt.U, Pt.locs, Pt.cells, Pt.slots] at X263 l263 y263 z263 st263 hQ263
      subst l263 y263 z263
      obtain ⟨rfl, N263q, K263, A263, V263⟩ := hQ263
      have N263 := Fr.app N261 N263q
      have sz263 := K263.1
      refine go_tr (B := (T263.setTop (mkF m 154 #[.val (.int cnt), .val (.int fl), .val (.long r1), .second, .val (.long r2), .second, .val (.long r3), .second, .val (.int (3 : Int32)), .val (.ref b218), .val (.ref b221), .val (.ref b224), .val (.ref b227), .val (.ref b237), .val (.ref b247), .val (.ref b256), .unset, .unset, .unset, .unset, .unset] [(.int (1 : Int32))]))) (st263) ?_
      refine go_of (B := (T263.setTop (mkF m 165 #[.val (.int cnt), .val (.int fl), .val (.long r1), .second, .val (.long r2), .second, .val (.long r3), .second, .val (.int (3 : Int32)), .val (.ref b218), .val (.ref b221), .val (.ref b224), .val (.ref b227), .val (.ref b237), .val (.ref b247), .val (.ref b256), .unset, .unset, .unset, .unset, .unset] [(.ref b247), (.ref b256)]))) (fun _ kk => XS.pop X263.here hx rfl (hb hby at_154) rfl rfl (XS.iload X263.here hx rfl (hb hby at_155) rfl (XS.iconst X263.here hx rfl (hb hby at_157) (XS.icmpNo X263.here hx rfl (hb hby at_158) rfl (flt (by decide : ¬ ((3 : Int32) < (3 : Int32)))).1 (XS.aload X263.here hx rfl (hb hby at_161) rfl rfl (XS.aload X263.here hx rfl (hb hby at_163) rfl rfl kk)))))) ?_
      have cf_264 := ((((A255.1.ext E256).keep K258).keep K261).keep K263)
      obtain ⟨cq265, kq265, q265a, q265b, q265c⟩ := isOf hZ rfl A263.1
      obtain ⟨_, _, ⟨T265, L265, k265, n265⟩, -, X265, ⟨Lc265, hQ265, l265, y265, z265⟩, st265⟩ := X263.virtualBack hx (y := MN11) (z := MN11) hown (mvT hZ (wd 116 rfl)) (mvT hZ (wd 117 rfl)) (notFace_of_selects (args := #[]) (mvT hZ (wd 119 rfl))) (mvT hZ (wd 119 rfl)) (mvT hZ (wd 118 rfl)) (by decide) (backOf (W := 0) (add2 l Z a0 hw [] b256 b247 b261 (((0 : Int32) + (1 : Int32)) + (1 : Int32)) k261 b227 b237 T263.heap n0 (by omega) ⟨A263.1, A263.2.1, A263.2.2.1, A263.2.2.2⟩ (by first | omega | exact own_ne (by omega) | exact own_le (by omega)) (by first | omega | exact own_ne (by omega) | exact own_le (by omega)) V263 O261 (Ins.of_exa cf_264 (wd 146 rfl)) (by first | omega | exact own_ne (by omega) | exact own_le (by omega))) hZ (wd 120 rfl) (wd 94 rfl) (by decide) (by decide)) q265a q265c (g := (mkF m 165 #[.val (.int cnt), .val (.int fl), .val (.long r1), .second, .val (.long r2), .second, .val (.long r3), .second, .val (.int (3 : Int32)), .val (.ref b218), .val (.ref b221), .val (.ref b224), .val (.ref b227), .val (.ref b237), .val (.ref b247), .val (.ref b256), .unset, .unset, .unset, .unset, .unset] [(.ref b247), (.ref b256)])) rfl (by rw [hml]; rfl) (Steps.refl _) (argsL := [(.ref b247)]) (rest := []) (lenOf pd__Ljava_lang_Object__Z rfl) rfl (Nat.le_of_eq rfl) (hb hby at_165) (fun _ _ => ⟨rfl, rfl, (by decide : 20 + 0 ≤ _), (by decide : 115 + 0 ≤ _)⟩)
      dsimp only [Pt.U, Pt.locs, Pt.cells, Pt.slots] at X265 l265 y265 z265 st265 hQ265
      subst l265 y265 z265
      obtain ⟨rfl, N265q, K265, A265, V265⟩ := hQ265
      have N265 := Fr.app N263 N265q
      have sz265 := K265.1
      refine go_tr (B := (T265.setTop (mkF m 168 #[.val (.int cnt), .val (.int fl), .val (.long r1), .second, .val (.long r2), .second, .val (.long r3), .second, .val (.int (3 : Int32)), .val (.ref b218), .val (.ref b221), .val (.ref b224), .val (.ref b227), .val (.ref b237), .val (.ref b247), .val (.ref b256), .unset, .unset, .unset, .unset, .unset] [(.int (1 : Int32))]))) (st265) ?_
      refine go_of (B := (T265.setTop (mkF m 183 #[.val (.int cnt), .val (.int fl), .val (.long r1), .second, .val (.long r2), .second, .val (.long r3), .second, .val (.int (3 : Int32)), .val (.ref b218), .val (.ref b221), .val (.ref b224), .val (.ref b227), .val (.ref b237), .val (.ref b247), .val (.ref b256), .unset, .unset, .unset, .unset, .unset] [(.int (2 : Int32)), (.int (3 : Int32))]))) (fun _ kk => XS.pop X265.here hx rfl (hb hby at_168) rfl rfl (XS.iload X265.here hx rfl (hb hby at_169) rfl (XS.iconst X265.here hx rfl (hb hby at_171) (XS.icmpYes X265.here hx rfl (pc0 := 172) (pc' := 180) rfl (hb hby at_172) rfl (feq (by decide : ¬ ((3 : Int32) = (1 : Int32)))).2 (by decide) (by decide) (XS.iload X265.here hx rfl (hb hby at_180) rfl (XS.iconst X265.here hx rfl (hb hby at_182) kk)))))) ?_
      refine go_of (B := (T265.setTop (mkF m 205 #[.val (.int cnt), .val (.int fl), .val (.long r1), .second, .val (.long r2), .second, .val (.long r3), .second, .val (.int (3 : Int32)), .val (.ref b218), .val (.ref b221), .val (.ref b224), .val (.ref b227), .val (.ref b237), .val (.ref b247), .val (.ref b256), .val (.ref b224), .unset, .unset, .unset, .unset] []))) (fun _ kk => XS.icmpYes X265.here hx rfl (pc0 := 183) (pc' := 191) rfl (hb hby at_183) rfl (feq (by decide : ¬ ((3 : Int32) = (2 : Int32)))).2 (by decide) (by decide) (XS.aload X265.here hx rfl (hb hby at_191) rfl rfl (XS.astore X265.here hx rfl (hb hby at_193) rfl rfl rfl (XS.iload X265.here hx rfl (hb hby at_195) rfl (XS.iconst X265.here hx rfl (hb hby at_197) (XS.icmpYes X265.here hx rfl (pc0 := 198) (pc' := 205) rfl (hb hby at_198) rfl (feq (by decide : ¬ ((3 : Int32) = (1 : Int32)))).2 (by decide) (by decide) kk)))))) ?_
      refine go_of (B := (T265.setTop (mkF m 220 #[.val (.int cnt), .val (.int fl), .val (.long r1), .second, .val (.long r2), .second, .val (.long r3), .second, .val (.int (3 : Int32)), .val (.ref b218), .val (.ref b221), .val (.ref b224), .val (.ref b227), .val (.ref b237), .val (.ref b247), .val (.ref b256), .val (.ref b224), .val (.long r3), .second, .unset, .unset] []))) (fun _ kk => XS.iload X265.here hx rfl (hb hby at_205) rfl (XS.iconst X265.here hx rfl (hb hby at_207) (XS.icmpYes X265.here hx rfl (pc0 := 208) (pc' := 216) rfl (hb hby at_208) rfl (feq (by decide : ¬ ((3 : Int32) = (2 : Int32)))).2 (by decide) (by decide) (XS.lload X265.here hx rfl (hb hby at_216) rfl (XS.lstore X265.here hx rfl (hb hby at_218) rfl rfl kk))))) ?_
      obtain ⟨T266, h266, X266, e266, E266, A266, D266, -, st266⟩ := newO X265 hx hZ hown (wd 147 rfl) (wd 148 rfl) (wd 149 rfl) rfl (g := (mkF m 220 #[.val (.int cnt), .val (.int fl), .val (.long r1), .second, .val (.long r2), .second, .val (.long r3), .second, .val (.int (3 : Int32)), .val (.ref b218), .val (.ref b221), .val (.ref b224), .val (.ref b227), .val (.ref b237), .val (.ref b247), .val (.ref b256), .val (.ref b224), .val (.long r3), .second, .unset, .unset] [])) rfl (hb hby at_220) (by decide) (by decide)
      obtain ⟨b266, g266⟩ : ∃ z, z = T265.heap.size := ⟨_, rfl⟩
      rw [← g266] at A266 D266 st266
      have hi266 := own_nlt A266.lt
      have sz266 := E266.1
      have F266_descriptors : Fld Z h266 b266 "com/example/wombat/wombat/rules/Limit" "descriptors" "Ljava/util/List;" .null := D266 (Or.inr (wd 261 rfl)) (ty := (.object "java/util/List")) (by decide)
      refine go_of (B := (T266.setTop (mkF m 223 #[.val (.int cnt), .val (.int fl), .val (.long r1), .second, .val (.long r2), .second, .val (.long r3), .second, .val (.int (3 : Int32)), .val (.ref b218), .val (.ref b221), .val (.ref b224), .val (.ref b227), .val (.ref b237), .val (.ref b247), .val (.ref b256), .val (.ref b224), .val (.long r3), .second, .unset, .unset] [(.ref b266)]))) (st266) ?_
      refine go_of (B := (T266.setTop (mkF m 226 #[.val (.int cnt), .val (.int fl), .val (.long r1), .second, .val (.long r2), .second, .val (.long r3), .second, .val (.int (3 : Int32)), .val (.ref b218), .val (.ref b221), .val (.ref b224), .val (.ref b227), .val (.ref b237), .val (.ref b247), .val (.ref b256), .val (.ref b224), .val (.long r3), .second, .unset, .unset] [(.ref b256), (.ref b266), (.ref b266)]))) (fun _ kk => XS.dup X266.here hx rfl (hb hby at_223) rfl rfl (XS.aload X266.here hx rfl (hb hby at_224) rfl rfl kk)) ?_
      have cf_267 := ((((cf_260.keep K261).keep K263).keep K265).ext E266)
      have cf_268 := (((cf_262.keep K263).keep K265).ext E266)
      have cf_269 := ((cf_264.keep K265).ext E266)
      have cf_270 := ((((cf_259.keep K261 (allS (by first | omega | exact own_ne (by omega) | exact own_le (by omega)) all0)).keep K263 (allS (by first | omega | exact own_ne (by omega) | exact own_le (by omega)) (allS (by first | omega | exact own_ne (by omega) | exact own_le (by omega)) all0))).keep K265 (allS (by first | omega | exact own_ne (by omega) | exact own_le (by omega)) (allS (by first | omega | exact own_ne (by omega) | exact own_le (by omega)) all0))).ext E266)
      have cf_271 := (A265.1.ext E266)
      have cf_272 := (A265.2.1.ext E266)
      have cf_273 := (A265.2.2.1.ext E266)
      have cf_274 := (A265.2.2.2.ext E266)
      have cf_275 := (V265.ext E266)
      have cf_276 := (((XE261.keep K263).keep K265).ext E266)
      have cf_277 := ((((((A255.2.ext E256).keep K258 (ninS (by first | omega | exact own_ne (by omega) | exact own_le (by omega)) nin0)).keep K261 (ninS (by first | omega | exact own_ne (by omega) | exact own_le (by omega)) nin0)).keep K263 (ninS (by first | omega | exact own_ne (by omega) | exact own_le (by omega)) (ninS (by first | omega | exact own_ne (by omega) | exact own_le (by omega)) nin0))).keep K265 (ninS (by first | omega | exact own_ne (by omega) | exact own_le (by omega)) (ninS (by first | omega | exact own_ne (by omega) | exact own_le (by omega)) nin0))).ext E266)
      obtain ⟨_, _, ⟨T278, L278, k278, n278⟩, -, X278, ⟨Lc278, hQ278, l278, y278, z278⟩, st278⟩ := X266.specialBack hx (y := MN3) rfl hown (mvT hZ (wd 150 rfl)) (mvT hZ (wd 151 rfl)) (mvT hZ (wd 152 rfl)) (by decide) (backOf (W := 1) (lim_3 l Z a0 hw [] b266 b256 _ b261 ((((0 : Int32) + (1 : Int32)) + (1 : Int32)) + (1 : Int32)) k261 b227 b237 b247 mr b224 h266 n0 (by omega) ⟨cf_271, cf_272, cf_273, cf_274⟩ M cf_275 (Ins.of_exa cf_267 (wd 146 rfl)) (Ins.of_exa cf_268 (wd 146 rfl)) (Ins.of_exa cf_269 (wd 146 rfl)) cf_276 A266 F266_descriptors (by first | omega | exact own_ne (by omega) | exact own_le (by omega)) cf_269 cf_277) hZ (wd 152 rfl) (wd 149 rfl) (by decide) (by decide)) (g := (mkF m 226 #[.val (.int cnt), .val (.int fl), .val (.long r1), .second, .val (.long r2), .second, .val (.long r3), .second, .val (.int (3 : Int32)), .val (.ref b218), .val (.ref b221), .val (.ref b224), .val (.ref b227), .val (.ref b237), .val (.ref b247), .val (.ref b256), .val (.ref b224), .val (.long r3), .second, .unset, .unset] [(.ref b256), (.ref b266), (.ref b266)])) rfl (by rw [hml]; rfl) (Steps.refl _) (a := b266) (argsL := [(.ref b256)]) (rest := [(.ref b266)]) (lenOf pd__Ljava_util_List__V rfl) rfl (Nat.le_of_eq rfl) (hb hby at_226) (fun _ _ => ⟨rfl, e266, (by decide : 21 + 3 ≤ _), (by decide : 116 + 8 ≤ _)⟩)
      dsimp only [Pt.U, Pt.locs, Pt.cells, Pt.slots] at X278 l278 y278 z278 st278 hQ278
      subst l278 y278 z278
      obtain ⟨t278, d278, k278, rfl, N278q, lo278, K278, E278, F278, A278, -⟩ := hQ278
      have lo278 := own_nle lo278
      have N278 := Fr.app N265 N278q
      have sz278 := K278.1
      refine go_tr (B := (T278.setTop (mkF m 229 #[.val (.int cnt), .val (.int fl), .val (.long r1), .second, .val (.long r2), .second, .val (.long r3), .second, .val (.int (3 : Int32)), .val (.ref b218), .val (.ref b221), .val (.ref b224), .val (.ref b227), .val (.ref b237), .val (.ref b247), .val (.ref b256), .val (.ref b224), .val (.long r3), .second, .unset, .unset] [(.ref b266)]))) (st278) ?_
      refine go_of (B := (T278.setTop (mkF m 233 #[.val (.int cnt), .val (.int fl), .val (.long r1), .second, .val (.long r2), .second, .val (.long r3), .second, .val (.int (3 : Int32)), .val (.ref b218), .val (.ref b221), .val (.ref b224), .val (.ref b227), .val (.ref b237), .val (.ref b247), .val (.ref b256), .val (.ref b224), .val (.long r3), .second, .val (.ref b266), .unset] [(.ref b266)]))) (fun _ kk => XS.astore X278.here hx rfl (hb hby at_229) rfl rfl rfl (XS.aload X278.here hx rfl (hb hby at_231) rfl rfl kk)) ?_
      have cf_279 := (cf_269.keep K278)
      have cf_280 := (cf_277.keep K278 (ninS (by first | omega | exact own_ne (by omega) | exact own_le (by omega)) nin0))
      obtain ⟨cq281, kq281, q281a, q281b, q281c⟩ := isOf hZ rfl E278
      obtain ⟨_, _, ⟨T281, L281, k281, n281⟩, -, X281, ⟨Lc281, hQ281, l281, y281, z281⟩, st281⟩ := X278.virtualBack hx (y := MN4) (z := MN4) hown (mvT hZ (wd 262 rfl)) (mvT hZ (wd 263 rfl)) (notFace_of_selects (args := #[]) (mvT hZ (wd 265 rfl))) (mvT hZ (wd 265 rfl)) (mvT hZ (wd 264 rfl)) (by decide) (backOf (W := 0) (lr_3 l Z a0 hw [] b266 t278 b227 b237 b247 d278 k278 b224 T278.heap n0 (by omega) F278 A278 cf_279 cf_280) hZ (wd 266 rfl) (wd 149 rfl) (by decide) (by decide)) q281a q281c (g := (mkF m 233 #[.val (.int cnt), .val (.int fl), .val (.long r1), .second, .val (.long r2), .second, .val (.long r3), .second, .val (.int (3 : Int32)), .val (.ref b218), .val (.ref b221), .val (.ref b224), .val (.ref b227), .val (.ref b237), .val (.ref b247), .val (.ref b256), .val (.ref b224), .val (.long r3), .second, .val (.ref b266), .unset] [(.ref b266)])) rfl (by rw [hml]; rfl) (Steps.refl _) (argsL := []) (rest := []) (lenOf pd___Lcom_example_wombat_wombat_rules_RateLimit_ rfl) rfl (Nat.le_of_eq rfl) (hb hby at_233) (fun _ _ => ⟨rfl, rfl, (by decide : 24 + 0 ≤ _), (by decide : 124 + 0 ≤ _)⟩)
      dsimp only [Pt.U, Pt.locs, Pt.cells, Pt.slots] at X281 l281 y281 z281 st281 hQ281
      subst l281 y281 z281
      obtain ⟨rfl, N281q, e281⟩ := hQ281
      have N281 := Fr.app N278 N281q
      refine go_tr (B := (T281.setTop (mkF m 236 #[.val (.int cnt), .val (.int fl), .val (.long r1), .second, .val (.long r2), .second, .val (.long r3), .second, .val (.int (3 : Int32)), .val (.ref b218), .val (.ref b221), .val (.ref b224), .val (.ref b227), .val (.ref b237), .val (.ref b247), .val (.ref b256), .val (.ref b224), .val (.long r3), .second, .val (.ref b266), .unset] [(.ref b224)]))) (st281) ?_
      refine go_of (B := (T281.setTop (mkF m 247 #[.val (.int cnt), .val (.int fl), .val (.long r1), .second, .val (.long r2), .second, .val (.long r3), .second, .val (.int (3 : Int32)), .val (.ref b218), .val (.ref b221), .val (.ref b224), .val (.ref b227), .val (.ref b237), .val (.ref b247), .val (.ref b256), .val (.ref b224), .val (.long r3), .second, .val (.ref b266), .val (.ref b224)] [(.ref b224)]))) (fun _ kk => XS.astore X281.here hx rfl (hb hby at_236) rfl rfl rfl (XS.aload X281.here hx rfl (hb hby at_238) rfl rfl (XS.aload X281.here hx rfl (hb hby at_240) rfl rfl (Jvm.RoadKit.acmp (g := (mkF m 242 #[.val (.int cnt), .val (.int fl), .val (.long r1), .second, .val (.long r2), .second, .val (.long r3), .second, .val (.int (3 : Int32)), .val (.ref b218), .val (.ref b221), .val (.ref b224), .val (.ref b227), .val (.ref b237), .val (.ref b247), .val (.ref b256), .val (.ref b224), .val (.long r3), .second, .val (.ref b266), .val (.ref b224)] [(.ref b224), (.ref b224)])) X281 hx rfl rfl rfl (pc0 := 242) (pc' := 245) (same := true) rfl (hb hby at_242) rfl (decide_eq_true rfl) (by decide) (by decide) (XS.aload X281.here hx rfl (hb hby at_245) rfl rfl kk))))) ?_
      have cf_282 := ((((((((((((((((A226.2.ext E227).ext E228).keep K236 (ninS (by first | omega | exact own_ne (by omega) | exact own_le (by omega)) nin0)).ext E237).ext E238).keep K246 (ninS (by first | omega | exact own_ne (by omega) | exact own_le (by omega)) nin0)).ext E247).ext E248).keep K255 (ninS (by first | omega | exact own_ne (by omega) | exact own_le (by omega)) nin0)).ext E256).keep K258 (ninS (by first | omega | exact own_ne (by omega) | exact own_le (by omega)) nin0)).keep K261 (ninS (by first | omega | exact own_ne (by omega) | exact own_le (by omega)) nin0)).keep K263 (ninS (by first | omega | exact own_ne (by omega) | exact own_le (by omega)) (ninS (by first | omega | exact own_ne (by omega) | exact own_le (by omega)) nin0))).keep K265 (ninS (by first | omega | exact own_ne (by omega) | exact own_le (by omega)) (ninS (by first | omega | exact own_ne (by omega) | exact own_le (by omega)) nin0))).ext E266).keep K278 (ninS (by first | omega | exact own_ne (by omega) | exact own_le (by omega)) nin0))
      have cf_284 := ((((((((((((((((A226.1.ext E227).ext E228).keep K236).ext E237).ext E238).keep K246).ext E247).ext E248).keep K255).ext E256).keep K258).keep K261).keep K263).keep K265).ext E266).keep K278)
      obtain ⟨cq283, kq283, q283a, q283b, q283c⟩ := isOf hZ e281 cf_284
      obtain ⟨_, _, ⟨T283, L283, k283, n283⟩, -, X283, ⟨Lc283, hQ283, l283, y283, z283⟩, st283⟩ := X281.virtualBack hx (y := MN6) (z := MN6) hown (mvT hZ (wd 267 rfl)) (mvT hZ (wd 268 rfl)) (notFace_of_selects (args := #[]) (mvT hZ (wd 270 rfl))) (mvT hZ (wd 270 rfl)) (mvT hZ (wd 269 rfl)) (by decide) (backOf (W := 0) (rpu l Z a0 hw [] b224 r3 T278.heap n0 (by omega) cf_282) hZ (wd 271 rfl) (wd 3 rfl) (by decide) (by decide)) q283a q283c (g := (mkF m 247 #[.val (.int cnt), .val (.int fl), .val (.long r1), .second, .val (.long r2), .second, .val (.long r3), .second, .val (.int (3 : Int32)), .val (.ref b218), .val (.ref b221), .val (.ref b224), .val (.ref b227), .val (.ref b237), .val (.ref b247), .val (.ref b256), .val (.ref b224), .val (.long r3), .second, .val (.ref b266), .val (.ref b224)] [(.ref b224)])) rfl (by rw [hml]; rfl) (Steps.refl _) (argsL := []) (rest := []) (lenOf pd___J rfl) rfl (Nat.le_of_eq rfl) (hb hby at_247) (fun _ _ => ⟨rfl, e281, (by decide : 24 + 0 ≤ _), (by decide : 124 + 0 ≤ _)⟩)
      dsimp only [Pt.U, Pt.locs, Pt.cells, Pt.slots] at X283 l283 y283 z283 st283 hQ283
      subst l283 y283 z283
      obtain ⟨rfl, N283q, e283⟩ := hQ283
      have N283 := Fr.app N281 N283q
      refine go_tr (B := (T283.setTop (mkF m 250 #[.val (.int cnt), .val (.int fl), .val (.long r1), .second, .val (.long r2), .second, .val (.long r3), .second, .val (.int (3 : Int32)), .val (.ref b218), .val (.ref b221), .val (.ref b224), .val (.ref b227), .val (.ref b237), .val (.ref b247), .val (.ref b256), .val (.ref b224), .val (.long r3), .second, .val (.ref b266), .val (.ref b224)] [(.long r3)]))) (st283) ?_
      refine go_of (B := (T283.setTop (mkF m 261 #[.val (.int cnt), .val (.int fl), .val (.long r1), .second, .val (.long r2), .second, .val (.long r3), .second, .val (.int (3 : Int32)), .val (.ref b218), .val (.ref b221), .val (.ref b224), .val (.ref b227), .val (.ref b237), .val (.ref b247), .val (.ref b256), .val (.ref b224), .val (.long r3), .second, .val (.ref b266), .val (.ref b224)] [(.int (1 : Int32))]))) (fun _ kk => XS.lload X283.here hx rfl (hb hby at_250) rfl (XS.lcmp X283.here hx rfl (hb hby at_252) rfl (XS.ifNo X283.here hx rfl (hb hby at_253) rfl ((if0 _ _).trans (teq ((lw_eq _ _).mpr rfl)).2) (XS.iconst X283.here hx rfl (hb hby at_256) (XS.goto X283.here hx rfl (pc0 := 257) (pc' := 261) rfl (hb hby at_257) (by decide) (by decide) kk))))) ?_
      refine go_endW X283 hS (by rw [e283]; omega) (v := some (.int (nar .boolean (1 : Int32)))) (fun h => by rw [hret] at h; cases h) hlk (by decide) (by decide) (Q := (Q_rm0 Z cnt fl r1 r2 r3 wT wA wE wM wD kD mr h0 n0)) ?_ (fun fs hr => retN X283 hx (t := .boolean) hret (by simp) (hb hby at_261) hr)
      unfold Q_rm0
      try rw [e283]
      exact ⟨rfl, N283⟩
    · refine go_of (B := (T238.setTop (mkF m 106 #[.val (.int cnt), .val (.int fl), .val (.long r1), .second, .val (.long r2), .second, .val (.long r3), .second, .val (.int (3 : Int32)), .val (.ref b218), .val (.ref b221), .val (.ref b224), .val (.ref b227), .unset, .unset, .unset, .unset, .unset, .unset, .unset, .unset] [(.ref b221), (.ref b238), (.ref b237), (.ref b237)]))) (fun _ kk => XS.ifNo X238.here hx rfl (hb hby at_97) rfl ((if0 _ _).trans (feq hcc239).1) (XS.aload X238.here hx rfl (hb hby at_100) rfl rfl (XS.goto X238.here hx rfl (pc0 := 102) (pc' := 106) rfl (hb hby at_102) (by decide) (by decide) kk))) ?_
      have cf_285 := (((cf_230.keep K236 (allS (by first | omega | exact own_ne (by omega) | exact own_le (by omega)) all0)).ext E237).ext E238)
      have cf_286 := (A237.ext E238)
      have cf_287 := (F237_key.ext E238)
      have cf_288 := (F237_value.ext E238)
      have cf_289 := (F237_rateLimit.ext E238)
      have cf_290 := (F237_descriptors.ext E238)
      obtain ⟨_, _, ⟨T291, L291, k291, n291⟩, -, X291', hS291', gr291, ⟨Lc291, hQ291, l291, y291, z291⟩, st291⟩ := X238.specialBackS hx (y := MN0) rfl hown (mvT hZ (wd 46 rfl)) (mvT hZ (wd 47 rfl)) (mvT hZ (wd 48 rfl)) (by decide) (backOfS (W := 1) (ds2r l Z a0 hw [] b237 b238 b221 wE _ _ _ _ h238 n0 (by omega) cf_285 SE EE FE cf_286 cf_287 cf_288 cf_289 cf_290 (by first | omega | exact own_ne (by omega) | exact own_le (by omega))) hZ (wd 48 rfl) (wd 37 rfl) (by decide) (by decide)) (g := (mkF m 106 #[.val (.int cnt), .val (.int fl), .val (.long r1), .second, .val (.long r2), .second, .val (.long r3), .second, .val (.int (3 : Int32)), .val (.ref b218), .val (.ref b221), .val (.ref b224), .val (.ref b227), .unset, .unset, .unset, .unset, .unset, .unset, .unset, .unset] [(.ref b221), (.ref b238), (.ref b237), (.ref b237)])) rfl (by rw [hml]; rfl) (Steps.refl _) (a := b237) (argsL := [(.ref b238), (.ref b221)]) (rest := [(.ref b237)]) (lenOf pd__Ljava_lang_String_Lcom_example_wombat_wombat_rules_RateLimit__V rfl) rfl (Nat.le_of_eq rfl) (hb hby at_106) (fun _ _ => ⟨rfl, e238, (by decide : 11 + 2 ≤ _), (by decide : 58 + 16 ≤ _)⟩)
      dsimp only [Pt.U, Pt.locs, Pt.cells, Pt.slots] at X291' hS291' gr291 l291 y291 z291 st291 hQ291
      subst l291 y291 z291
      have X291 : Stand _ _ _ _ (s.setVm T291.vm) _ _ _ _ _ T291 _ _ _ := X291'
      have hS : s.Since T291.vm T291.heap.size := foldS hS (by rw [e238]; omega) hS291' gr291
      have hZ : Z.Warmed39 (s.setVm T291.vm).vm := State.Warmed39.trans (t := s.setVm T238.vm) hZ hS291'.1
      have hown : (s.setVm T291.vm).vm.findClass "com/example/wombat/wombat/rules/LimitRateLimitPinLaw" = some m.cls := by rw [show (s.setVm T291.vm).vm = T291.vm from rfl, hS291'.1.alike.findClass]; exact hown
      obtain ⟨rfl, N291q, K291, A291⟩ := hQ291
      have N291 := Fr.app N236 N291q
      have sz291 := K291.1
      refine go_tr (B := (T291.setTop (mkF m 109 #[.val (.int cnt), .val (.int fl), .val (.long r1), .second, .val (.long r2), .second, .val (.long r3), .second, .val (.int (3 : Int32)), .val (.ref b218), .val (.ref b221), .val (.ref b224), .val (.ref b227), .unset, .unset, .unset, .unset, .unset, .unset, .unset, .unset] [(.ref b237)]))) (st291) ?_
      refine go_of (B := (T291.setTop (mkF m 111 #[.val (.int cnt), .val (.int fl), .val (.long r1), .second, .val (.long r2), .second, .val (.long r3), .second, .val (.int (3 : Int32)), .val (.ref b218), .val (.ref b221), .val (.ref b224), .val (.ref b227), .val (.ref b237), .unset, .unset, .unset, .unset, .unset, .unset, .unset] []))) (fun _ kk => XS.astore X291.here hx rfl (hb hby at_109) rfl rfl rfl kk) ?_
      obtain ⟨T292, h292, X292, e292, E292, A292, D292, -, st292⟩ := newO X291 hx hZ hown (wd 35 rfl) (wd 36 rfl) (wd 37 rfl) rfl (g := (mkF m 111 #[.val (.int cnt), .val (.int fl), .val (.long r1), .second, .val (.long r2), .second, .val (.long r3), .second, .val (.int (3 : Int32)), .val (.ref b218), .val (.ref b221), .val (.ref b224), .val (.ref b227), .val (.ref b237), .unset, .unset, .unset, .unset, .unset, .unset, .unset] [])) rfl (hb hby at_111) (by decide) (by decide)
      obtain ⟨b292, g292⟩ : ∃ z, z = T291.heap.size := ⟨_, rfl⟩
      rw [← g292] at A292 D292 st292
      have hi292 := own_nlt A292.lt
      have sz292 := E292.1
      have F292_key : Fld Z h292 b292 "com/example/wombat/wombat/rules/Descriptor" "key" "Ljava/lang/String;" .null := D292 (Or.inr (wd 83 rfl)) (ty := (.object "java/lang/String")) (by decide)
      have F292_value : Fld Z h292 b292 "com/example/wombat/wombat/rules/Descriptor" "value" "Ljava/lang/String;" .null := D292 (Or.inr (wd 85 rfl)) (ty := (.object "java/lang/String")) (by decide)
      have F292_rateLimit : Fld Z h292 b292 "com/example/wombat/wombat/rules/Descriptor" "rateLimit" "Lcom/example/wombat/wombat/rules/RateLimit;" .null := D292 (Or.inr (wd 87 rfl)) (ty := (.object "com/example/wombat/wombat/rules/RateLimit")) (by decide)
      have F292_descriptors : Fld Z h292 b292 "com/example/wombat/wombat/rules/Descriptor" "descriptors" "Ljava/util/List;" .null := D292 (Or.inr (wd 89 rfl)) (ty := (.object "java/util/List")) (by decide)
      refine go_of (B := (T292.setTop (mkF m 114 #[.val (.int cnt), .val (.int fl), .val (.long r1), .second, .val (.long r2), .second, .val (.long r3), .second, .val (.int (3 : Int32)), .val (.ref b218), .val (.ref b221), .val (.ref b224), .val (.ref b227), .val (.ref b237), .unset, .unset, .unset, .unset, .unset, .unset, .unset] [(.ref b292)]))) (st292) ?_
      refine go_of (B := (T292.setTop (mkF m 115 #[.val (.int cnt), .val (.int fl), .val (.long r1), .second, .val (.long r2), .second, .val (.long r3), .second, .val (.int (3 : Int32)), .val (.ref b218), .val (.ref b221), .val (.ref b224), .val (.ref b227), .val (.ref b237), .unset, .unset, .unset, .unset, .unset, .unset, .unset] [(.ref b292), (.ref b292)]))) (fun _ kk => XS.dup X292.here hx rfl (hb hby at_114) rfl rfl kk) ?_
      obtain ⟨b293, T293, h293, k293, X293, e293, E293, hS, hk293, hZ, hown, st293⟩ := ldcS X292 hx hZ hown (wd 91 rfl) (own_wS hw) e292 hS (by first | omega | exact own_ne (by omega) | exact own_le (by omega)) (g := (mkF m 115 #[.val (.int cnt), .val (.int fl), .val (.long r1), .second, .val (.long r2), .second, .val (.long r3), .second, .val (.int (3 : Int32)), .val (.ref b218), .val (.ref b221), .val (.ref b224), .val (.ref b227), .val (.ref b237), .unset, .unset, .unset, .unset, .unset, .unset, .unset] [(.ref b292), (.ref b292)])) rfl (hb hby at_115) (n := 4) (by decide) (by decide) (by decide) (by decide)
      have sz293 := E293.1
      refine go_of (B := (T293.setTop (mkF m 117 #[.val (.int cnt), .val (.int fl), .val (.long r1), .second, .val (.long r2), .second, .val (.long r3), .second, .val (.int (3 : Int32)), .val (.ref b218), .val (.ref b221), .val (.ref b224), .val (.ref b227), .val (.ref b237), .unset, .unset, .unset, .unset, .unset, .unset, .unset] [(.ref b293), (.ref b292), (.ref b292)]))) (st293) ?_
      refine go_of (B := (T293.setTop (mkF m 119 #[.val (.int cnt), .val (.int fl), .val (.long r1), .second, .val (.long r2), .second, .val (.long r3), .second, .val (.int (3 : Int32)), .val (.ref b218), .val (.ref b221), .val (.ref b224), .val (.ref b227), .val (.ref b237), .unset, .unset, .unset, .unset, .unset, .unset, .unset] [(.ref b224), (.ref b293), (.ref b292), (.ref b292)]))) (fun _ kk => XS.aload X293.here hx rfl (hb hby at_117) rfl rfl kk) ?_
      have cf_294 := (((cf_285.keep K291 (allS (by first | omega | exact own_ne (by omega) | exact own_le (by omega)) all0)).ext E292).ext E293)
      have cf_295 := (A292.ext E293)
      have cf_296 := (F292_key.ext E293)
      have cf_297 := (F292_value.ext E293)
      have cf_298 := (F292_rateLimit.ext E293)
      have cf_299 := (F292_descriptors.ext E293)
      obtain ⟨_, _, ⟨T300, L300, k300, n300⟩, -, X300', hS300', gr300, ⟨Lc300, hQ300, l300, y300, z300⟩, st300⟩ := X293.specialBackS hx (y := MN0) rfl hown (mvT hZ (wd 46 rfl)) (mvT hZ (wd 47 rfl)) (mvT hZ (wd 48 rfl)) (by decide) (backOfS (W := 1) (ds2r l Z a0 hw [] b292 b293 b224 wE _ _ _ _ h293 n0 (by omega) cf_294 SE EE FE cf_295 cf_296 cf_297 cf_298 cf_299 (by first | omega | exact own_ne (by omega) | exact own_le (by omega))) hZ (wd 48 rfl) (wd 37 rfl) (by decide) (by decide)) (g := (mkF m 119 #[.val (.int cnt), .val (.int fl), .val (.long r1), .second, .val (.long r2), .second, .val (.long r3), .second, .val (.int (3 : Int32)), .val (.ref b218), .val (.ref b221), .val (.ref b224), .val (.ref b227), .val (.ref b237), .unset, .unset, .unset, .unset, .unset, .unset, .unset] [(.ref b224), (.ref b293), (.ref b292), (.ref b292)])) rfl (by rw [hml]; rfl) (Steps.refl _) (a := b292) (argsL := [(.ref b293), (.ref b224)]) (rest := [(.ref b292)]) (lenOf pd__Ljava_lang_String_Lcom_example_wombat_wombat_rules_RateLimit__V rfl) rfl (Nat.le_of_eq rfl) (hb hby at_119) (fun _ _ => ⟨rfl, e293, (by decide : 16 + 2 ≤ _), (by decide : 86 + 16 ≤ _)⟩)
      dsimp only [Pt.U, Pt.locs, Pt.cells, Pt.slots] at X300' hS300' gr300 l300 y300 z300 st300 hQ300
      subst l300 y300 z300
      have X300 : Stand _ _ _ _ (s.setVm T300.vm) _ _ _ _ _ T300 _ _ _ := X300'
      have hS : s.Since T300.vm T300.heap.size := foldS hS (by rw [e293]; omega) hS300' gr300
      have hZ : Z.Warmed39 (s.setVm T300.vm).vm := State.Warmed39.trans (t := s.setVm T293.vm) hZ hS300'.1
      have hown : (s.setVm T300.vm).vm.findClass "com/example/wombat/wombat/rules/LimitRateLimitPinLaw" = some m.cls := by rw [show (s.setVm T300.vm).vm = T300.vm from rfl, hS300'.1.alike.findClass]; exact hown
      obtain ⟨rfl, N300q, K300, A300⟩ := hQ300
      have N300 := Fr.app N291 N300q
      have sz300 := K300.1
      refine go_tr (B := (T300.setTop (mkF m 122 #[.val (.int cnt), .val (.int fl), .val (.long r1), .second, .val (.long r2), .second, .val (.long r3), .second, .val (.int (3 : Int32)), .val (.ref b218), .val (.ref b221), .val (.ref b224), .val (.ref b227), .val (.ref b237), .unset, .unset, .unset, .unset, .unset, .unset, .unset] [(.ref b292)]))) (st300) ?_
      refine go_of (B := (T300.setTop (mkF m 124 #[.val (.int cnt), .val (.int fl), .val (.long r1), .second, .val (.long r2), .second, .val (.long r3), .second, .val (.int (3 : Int32)), .val (.ref b218), .val (.ref b221), .val (.ref b224), .val (.ref b227), .val (.ref b237), .val (.ref b292), .unset, .unset, .unset, .unset, .unset, .unset] []))) (fun _ kk => XS.astore X300.here hx rfl (hb hby at_122) rfl rfl rfl kk) ?_
      obtain ⟨T301, h301, X301, e301, E301, A301, D301, -, st301⟩ := newO X300 hx hZ hown (wd 92 rfl) (wd 93 rfl) (wd 94 rfl) rfl (g := (mkF m 124 #[.val (.int cnt), .val (.int fl), .val (.long r1), .second, .val (.long r2), .second, .val (.long r3), .second, .val (.int (3 : Int32)), .val (.ref b218), .val (.ref b221), .val (.ref b224), .val (.ref b227), .val (.ref b237), .val (.ref b292), .unset, .unset, .unset, .unset, .unset, .unset] [])) rfl (hb hby at_124) (by decide) (by decide)
      obtain ⟨b301, g301⟩ : ∃ z, z = T300.heap.size := ⟨_, rfl⟩
      rw [← g301] at A301 D301 st301
      have hi301 := own_nlt A301.lt
      have sz301 := E301.1
      have F301_modCount : Fld Z h301 b301 "java/util/AbstractList" "modCount" "I" (.int (0 : Int32)) := D301 (Or.inl (wd 112 rfl)) (ty := .int) (by decide)
      have F301_elementData : Fld Z h301 b301 "java/util/ArrayList" "elementData" "[Ljava/lang/Object;" .null := D301 (Or.inl (wd 115 rfl)) (ty := (.array (.object "java/lang/Object"))) (by decide)
      have F301_size : Fld Z h301 b301 "java/util/ArrayList" "size" "I" (.int (0 : Int32)) := D301 (Or.inl (wd 124 rfl)) (ty := .int) (by decide)
      refine go_of (B := (T301.setTop (mkF m 127 #[.val (.int cnt), .val (.int fl), .val (.long r1), .second, .val (.long r2), .second, .val (.long r3), .second, .val (.int (3 : Int32)), .val (.ref b218), .val (.ref b221), .val (.ref b224), .val (.ref b227), .val (.ref b237), .val (.ref b292), .unset, .unset, .unset, .unset, .unset, .unset] [(.ref b301)]))) (st301) ?_
      refine go_of (B := (T301.setTop (mkF m 128 #[.val (.int cnt), .val (.int fl), .val (.long r1), .second, .val (.long r2), .second, .val (.long r3), .second, .val (.int (3 : Int32)), .val (.ref b218), .val (.ref b221), .val (.ref b224), .val (.ref b227), .val (.ref b237), .val (.ref b292), .unset, .unset, .unset, .unset, .unset, .unset] [(.ref b301), (.ref b301)]))) (fun _ kk => XS.dup X301.here hx rfl (hb hby at_127) rfl rfl kk) ?_
      have cf_302 := ((cf_294.keep K300 (allS (by first | omega | exact own_ne (by omega) | exact own_le (by omega)) all0)).ext E301)
      obtain ⟨_, _, ⟨T303, L303, k303, n303⟩, -, X303, ⟨Lc303, hQ303, l303, y303, z303⟩, st303⟩ := X301.specialBack hx (y := MN10) rfl hown (mvT hZ (wd 95 rfl)) (mvT hZ (wd 96 rfl)) (mvT hZ (wd 97 rfl)) (by decide) (backOf (W := 1) (rm11 l Z a0 hw [] b301 _ _ wD h301 n0 (by omega) A301 F301_modCount F301_elementData F301_size (by first | omega | exact own_ne (by omega) | exact own_le (by omega)) cf_302 SD) hZ (wd 97 rfl) (wd 94 rfl) (by decide) (by decide)) (g := (mkF m 128 #[.val (.int cnt), .val (.int fl), .val (.long r1), .second, .val (.long r2), .second, .val (.long r3), .second, .val (.int (3 : Int32)), .val (.ref b218), .val (.ref b221), .val (.ref b224), .val (.ref b227), .val (.ref b237), .val (.ref b292), .unset, .unset, .unset, .unset, .unset, .unset] [(.ref b301), (.ref b301)])) rfl (by rw [hml]; rfl) (Steps.refl _) (a := b301) (argsL := []) (rest := [(.ref b301)]) (lenOf pd___V rfl) rfl (Nat.le_of_eq rfl) (hb hby at_128) (fun _ _ => ⟨rfl, e301, (by decide : 19 + 0 ≤ _), (by decide : 105 + 0 ≤ _)⟩)
      dsimp only [Pt.U, Pt.locs, Pt.cells, Pt.slots] at X303 l303 y303 z303 st303 hQ303
      subst l303 y303 z303
      obtain ⟨rfl, N303q, K303, A303⟩ := hQ303
      have N303 := Fr.app N300 N303q
      have sz303 := K303.1
      refine go_tr (B := (T303.setTop (mkF m 131 #[.val (.int cnt), .val (.int fl), .val (.long r1), .second, .val (.long r2), .second, .val (.long r3), .second, .val (.int (3 : Int32)), .val (.ref b218), .val (.ref b221), .val (.ref b224), .val (.ref b227), .val (.ref b237), .val (.ref b292), .unset, .unset, .unset, .unset, .unset, .unset] [(.ref b301)]))) (st303) ?_
      refine go_of (B := (T303.setTop (mkF m 137 #[.val (.int cnt), .val (.int fl), .val (.long r1), .second, .val (.long r2), .second, .val (.long r3), .second, .val (.int (3 : Int32)), .val (.ref b218), .val (.ref b221), .val (.ref b224), .val (.ref b227), .val (.ref b237), .val (.ref b292), .val (.ref b301), .unset, .unset, .unset, .unset, .unset] [(.ref b227), (.ref b301)]))) (fun _ kk => XS.astore X303.here hx rfl (hb hby at_131) rfl rfl rfl (XS.aload X303.here hx rfl (hb hby at_133) rfl rfl (XS.aload X303.here hx rfl (hb hby at_135) rfl rfl kk))) ?_
      have cf_304 := (cf_302.keep K303 (allS (by first | omega | exact own_ne (by omega) | exact own_le (by omega)) all0))
      have cf_305 := ((((((((A236.1.ext E237).ext E238).keep K291).ext E292).ext E293).keep K300).ext E301).keep K303)
      obtain ⟨cq306, kq306, q306a, q306b, q306c⟩ := isOf hZ rfl A303.1
      obtain ⟨_, _, ⟨T306, L306, k306, n306⟩, -, X306, ⟨Lc306, hQ306, l306, y306, z306⟩, st306⟩ := X303.virtualBack hx (y := MN11) (z := MN11) hown (mvT hZ (wd 116 rfl)) (mvT hZ (wd 117 rfl)) (notFace_of_selects (args := #[]) (mvT hZ (wd 119 rfl))) (mvT hZ (wd 119 rfl)) (mvT hZ (wd 118 rfl)) (by decide) (backOf (W := 0) (add0 l Z a0 hw [] b301 b227 (0 : Int32) wD kD T303.heap n0 (by omega) ⟨A303.1, A303.2.1, A303.2.2.1, A303.2.2.2⟩ (by first | omega | exact own_ne (by omega) | exact own_le (by omega)) cf_304 SD (VD.ext cf_304.2) D0 (Ins.of_exa cf_305 (wd 146 rfl))) hZ (wd 120 rfl) (wd 94 rfl) (by decide) (by decide)) q306a q306c (g := (mkF m 137 #[.val (.int cnt), .val (.int fl), .val (.long r1), .second, .val (.long r2), .second, .val (.long r3), .second, .val (.int (3 : Int32)), .val (.ref b218), .val (.ref b221), .val (.ref b224), .val (.ref b227), .val (.ref b237), .val (.ref b292), .val (.ref b301), .unset, .unset, .unset, .unset, .unset] [(.ref b227), (.ref b301)])) rfl (by rw [hml]; rfl) (Steps.refl _) (argsL := [(.ref b227)]) (rest := []) (lenOf pd__Ljava_lang_Object__Z rfl) rfl (Nat.le_of_eq rfl) (hb hby at_137) (fun _ _ => ⟨rfl, rfl, (by decide : 19 + 1 ≤ _), (by decide : 105 + 10 ≤ _)⟩)
      dsimp only [Pt.U, Pt.locs, Pt.cells, Pt.slots] at X306 l306 y306 z306 st306 hQ306
      subst l306 y306 z306
      obtain ⟨b306, k306, rfl, N306q, lo306, K306, A306, V306, O306, XE306⟩ := hQ306
      have lo306 := own_nle lo306
      have N306 := Fr.app N303 N306q
      have hi306 := own_nlt (V306.lt)
      have sz306 := K306.1
      refine go_tr (B := (T306.setTop (mkF m 140 #[.val (.int cnt), .val (.int fl), .val (.long r1), .second, .val (.long r2), .second, .val (.long r3), .second, .val (.int (3 : Int32)), .val (.ref b218), .val (.ref b221), .val (.ref b224), .val (.ref b227), .val (.ref b237), .val (.ref b292), .val (.ref b301), .unset, .unset, .unset, .unset, .unset] [(.int (1 : Int32))]))) (st306) ?_
      refine go_of (B := (T306.setTop (mkF m 151 #[.val (.int cnt), .val (.int fl), .val (.long r1), .second, .val (.long r2), .second, .val (.long r3), .second, .val (.int (3 : Int32)), .val (.ref b218), .val (.ref b221), .val (.ref b224), .val (.ref b227), .val (.ref b237), .val (.ref b292), .val (.ref b301), .unset, .unset, .unset, .unset, .unset] [(.ref b237), (.ref b301)]))) (fun _ kk => XS.pop X306.here hx rfl (hb hby at_140) rfl rfl (XS.iload X306.here hx rfl (hb hby at_141) rfl (XS.iconst X306.here hx rfl (hb hby at_143) (XS.icmpNo X306.here hx rfl (hb hby at_144) rfl (flt (by decide : ¬ ((3 : Int32) < (2 : Int32)))).1 (XS.aload X306.here hx rfl (hb hby at_147) rfl rfl (XS.aload X306.here hx rfl (hb hby at_149) rfl rfl kk)))))) ?_
      have cf_307 := ((((((A291.1.ext E292).ext E293).keep K300).ext E301).keep K303).keep K306)
      obtain ⟨cq308, kq308, q308a, q308b, q308c⟩ := isOf hZ rfl A306.1
      obtain ⟨_, _, ⟨T308, L308, k308, n308⟩, -, X308, ⟨Lc308, hQ308, l308, y308, z308⟩, st308⟩ := X306.virtualBack hx (y := MN11) (z := MN11) hown (mvT hZ (wd 116 rfl)) (mvT hZ (wd 117 rfl)) (notFace_of_selects (args := #[]) (mvT hZ (wd 119 rfl))) (mvT hZ (wd 119 rfl)) (mvT hZ (wd 118 rfl)) (by decide) (backOf (W := 0) (add1 l Z a0 hw [] b301 b237 b306 ((0 : Int32) + (1 : Int32)) k306 b227 T306.heap n0 (by omega) ⟨A306.1, A306.2.1, A306.2.2.1, A306.2.2.2⟩ (by first | omega | exact own_ne (by omega) | exact own_le (by omega)) (by first | omega | exact own_ne (by omega) | exact own_le (by omega)) V306 O306 (Ins.of_exa cf_307 (wd 146 rfl)) (by first | omega | exact own_ne (by omega) | exact own_le (by omega))) hZ (wd 120 rfl) (wd 94 rfl) (by decide) (by decide)) q308a q308c (g := (mkF m 151 #[.val (.int cnt), .val (.int fl), .val (.long r1), .second, .val (.long r2), .second, .val (.long r3), .second, .val (.int (3 : Int32)), .val (.ref b218), .val (.ref b221), .val (.ref b224), .val (.ref b227), .val (.ref b237), .val (.ref b292), .val (.ref b301), .unset, .unset, .unset, .unset, .unset] [(.ref b237), (.ref b301)])) rfl (by rw [hml]; rfl) (Steps.refl _) (argsL := [(.ref b237)]) (rest := []) (lenOf pd__Ljava_lang_Object__Z rfl) rfl (Nat.le_of_eq rfl) (hb hby at_151) (fun _ _ => ⟨rfl, rfl, (by decide : 20 + 0 ≤ _), (by decide : 115 + 0 ≤ _)⟩)
      dsimp only [Pt.U, Pt.locs, Pt.cells, Pt.slots] at X308 l308 y308 z308 st308 hQ308
      subst l308 y308 z308
      obtain ⟨rfl, N308q, K308, A308, V308⟩ := hQ308
      have N308 := Fr.app N306 N308q
      have sz308 := K308.1
      refine go_tr (B := (T308.setTop (mkF m 154 #[.val (.int cnt), .val (.int fl), .val (.long r1), .second, .val (.long r2), .second, .val (.long r3), .second, .val (.int (3 : Int32)), .val (.ref b218), .val (.ref b221), .val (.ref b224), .val (.ref b227), .val (.ref b237), .val (.ref b292), .val (.ref b301), .unset, .unset, .unset, .unset, .unset] [(.int (1 : Int32))]))) (st308) ?_
      refine go_of (B := (T308.setTop (mkF m 165 #[.val (.int cnt), .val (.int fl), .val (.long r1), .second, .val (.long r2), .second, .val (.long r3), .second, .val (.int (3 : Int32)), .val (.ref b218), .val (.ref b221), .val (.ref b224), .val (.ref b227), .val (.ref b237), .val (.ref b292), .val (.ref b301), .unset, .unset, .unset, .unset, .unset] [(.ref b292), (.ref b301)]))) (fun _ kk => XS.pop X308.here hx rfl (hb hby at_154) rfl rfl (XS.iload X308.here hx rfl (hb hby at_155) rfl (XS.iconst X308.here hx rfl (hb hby at_157) (XS.icmpNo X308.here hx rfl (hb hby at_158) rfl (flt (by decide : ¬ ((3 : Int32) < (3 : Int32)))).1 (XS.aload X308.here hx rfl (hb hby at_161) rfl rfl (XS.aload X308.here hx rfl (hb hby at_163) rfl rfl kk)))))) ?_
      have cf_309 := ((((A300.1.ext E301).keep K303).keep K306).keep K308)
      obtain ⟨cq310, kq310, q310a, q310b, q310c⟩ := isOf hZ rfl A308.1
      obtain ⟨_, _, ⟨T310, L310, k310, n310⟩, -, X310, ⟨Lc310, hQ310, l310, y310, z310⟩, st310⟩ := X308.virtualBack hx (y := MN11) (z := MN11) hown (mvT hZ (wd 116 rfl)) (mvT hZ (wd 117 rfl)) (notFace_of_selects (args := #[]) (mvT hZ (wd 119 rfl))) (mvT hZ (wd 119 rfl)) (mvT hZ (wd 118 rfl)) (by decide) (backOf (W := 0) (add2 l Z a0 hw [] b301 b292 b306 (((0 : Int32) + (1 : Int32)) + (1 : Int32)) k306 b227 b237 T308.heap n0 (by omega) ⟨A308.1, A308.2.1, A308.2.2.1, A308.2.2.2⟩ (by first | omega | exact own_ne (by omega) | exact own_le (by omega)) (by first | omega | exact own_ne (by omega) | exact own_le (by omega)) V308 O306 (Ins.of_exa cf_309 (wd 146 rfl)) (by first | omega | exact own_ne (by omega) | exact own_le (by omega))) hZ (wd 120 rfl) (wd 94 rfl) (by decide) (by decide)) q310a q310c (g := (mkF m 165 #[.val (.int cnt), .val (.int fl), .val (.long r1), .second, .val (.long r2), .second, .val (.long r3), .second, .val (.int (3 : Int32)), .val (.ref b218), .val (.ref b221), .val (.ref b224), .val (.ref b227), .val (.ref b237), .val (.ref b292), .val (.ref b301), .unset, .unset, .unset, .unset, .unset] [(.ref b292), (.ref b301)])) rfl (by rw [hml]; rfl) (Steps.refl _) (argsL := [(.ref b292)]) (rest := []) (lenOf pd__Ljava_lang_Object__Z rfl) rfl (Nat.le_of_eq rfl) (hb hby at_165) (fun _ _ => ⟨rfl, rfl, (by decide : 20 + 0 ≤ _), (by decide : 115 + 0 ≤ _)⟩)
      dsimp only [Pt.U, Pt.locs, Pt.cells, Pt.slots] at X310 l310 y310 z310 st310 hQ310
      subst l310 y310 z310
      obtain ⟨rfl, N310q, K310, A310, V310⟩ := hQ310
      have N310 := Fr.app N308 N310q
      have sz310 := K310.1
      refine go_tr (B := (T310.setTop (mkF m 168 #[.val (.int cnt), .val (.int fl), .val (.long r1), .second, .val (.long r2), .second, .val (.long r3), .second, .val (.int (3 : Int32)), .val (.ref b218), .val (.ref b221), .val (.ref b224), .val (.ref b227), .val (.ref b237), .val (.ref b292), .val (.ref b301), .unset, .unset, .unset, .unset, .unset] [(.int (1 : Int32))]))) (st310) ?_
      refine go_of (B := (T310.setTop (mkF m 183 #[.val (.int cnt), .val (.int fl), .val (.long r1), .second, .val (.long r2), .second, .val (.long r3), .second, .val (.int (3 : Int32)), .val (.ref b218), .val (.ref b221), .val (.ref b224), .val (.ref b227), .val (.ref b237), .val (.ref b292), .val (.ref b301), .unset, .unset, .unset, .unset, .unset] [(.int (2 : Int32)), (.int (3 : Int32))]))) (fun _ kk => XS.pop X310.here hx rfl (hb hby at_168) rfl rfl (XS.iload X310.here hx rfl (hb hby at_169) rfl (XS.iconst X310.here hx rfl (hb hby at_171) (XS.icmpYes X310.here hx rfl (pc0 := 172) (pc' := 180) rfl (hb hby at_172) rfl (feq (by decide : ¬ ((3 : Int32) = (1 : Int32)))).2 (by decide) (by decide) (XS.iload X310.here hx rfl (hb hby at_180) rfl (XS.iconst X310.here hx rfl (hb hby at_182) kk)))))) ?_
      refine go_of (B := (T310.setTop (mkF m 205 #[.val (.int cnt), .val (.int fl), .val (.long r1), .second, .val (.long r2), .second, .val (.long r3), .second, .val (.int (3 : Int32)), .val (.ref b218), .val (.ref b221), .val (.ref b224), .val (.ref b227), .val (.ref b237), .val (.ref b292), .val (.ref b301), .val (.ref b224), .unset, .unset, .unset, .unset] []))) (fun _ kk => XS.icmpYes X310.here hx rfl (pc0 := 183) (pc' := 191) rfl (hb hby at_183) rfl (feq (by decide : ¬ ((3 : Int32) = (2 : Int32)))).2 (by decide) (by decide) (XS.aload X310.here hx rfl (hb hby at_191) rfl rfl (XS.astore X310.here hx rfl (hb hby at_193) rfl rfl rfl (XS.iload X310.here hx rfl (hb hby at_195) rfl (XS.iconst X310.here hx rfl (hb hby at_197) (XS.icmpYes X310.here hx rfl (pc0 := 198) (pc' := 205) rfl (hb hby at_198) rfl (feq (by decide : ¬ ((3 : Int32) = (1 : Int32)))).2 (by decide) (by decide) kk)))))) ?_
      refine go_of (B := (T310.setTop (mkF m 220 #[.val (.int cnt), .val (.int fl), .val (.long r1), .second, .val (.long r2), .second, .val (.long r3), .second, .val (.int (3 : Int32)), .val (.ref b218), .val (.ref b221), .val (.ref b224), .val (.ref b227), .val (.ref b237), .val (.ref b292), .val (.ref b301), .val (.ref b224), .val (.long r3), .second, .unset, .unset] []))) (fun _ kk => XS.iload X310.here hx rfl (hb hby at_205) rfl (XS.iconst X310.here hx rfl (hb hby at_207) (XS.icmpYes X310.here hx rfl (pc0 := 208) (pc' := 216) rfl (hb hby at_208) rfl (feq (by decide : ¬ ((3 : Int32) = (2 : Int32)))).2 (by decide) (by decide) (XS.lload X310.here hx rfl (hb hby at_216) rfl (XS.lstore X310.here hx rfl (hb hby at_218) rfl rfl kk))))) ?_
      obtain ⟨T311, h311, X311, e311, E311, A311, D311, -, st311⟩ := newO X310 hx hZ hown (wd 147 rfl) (wd 148 rfl) (wd 149 rfl) rfl (g := (mkF m 220 #[.val (.int cnt), .val (.int fl), .val (.long r1), .second, .val (.long r2), .second, .val (.long r3), .second, .val (.int (3 : Int32)), .val (.ref b218), .val (.ref b221), .val (.ref b224), .val (.ref b227), .val (.ref b237), .val (.ref b292), .val (.ref b301), .val (.ref b224), .val (.long r3), .second, .unset, .unset] [])) rfl (hb hby at_220) (by decide) (by decide)
      obtain ⟨b311, g311⟩ : ∃ z, z = T310.heap.size := ⟨_, rfl⟩
      rw [← g311] at A311 D311 st311
      have hi311 := own_nlt A311.lt
      have sz311 := E311.1
      have F311_descriptors : Fld Z h311 b311 "com/example/wombat/wombat/rules/Limit" "descriptors" "Ljava/util/List;" .null := D311 (Or.inr (wd 261 rfl)) (ty := (.object "java/util/List")) (by decide)
      refine go_of (B := (T311.setTop (mkF m 223 #[.val (.int cnt), .val (.int fl), .val (.long r1), .second, .val (.long r2), .second, .val (.long r3), .second, .val (.int (3 : Int32)), .val (.ref b218), .val (.ref b221), .val (.ref b224), .val (.ref b227), .val (.ref b237), .val (.ref b292), .val (.ref b301), .val (.ref b224), .val (.long r3), .second, .unset, .unset] [(.ref b311)]))) (st311) ?_
      refine go_of (B := (T311.setTop (mkF m 226 #[.val (.int cnt), .val (.int fl), .val (.long r1), .second, .val (.long r2), .second, .val (.long r3), .second, .val (.int (3 : Int32)), .val (.ref b218), .val (.ref b221), .val (.ref b224), .val (.ref b227), .val (.ref b237), .val (.ref b292), .val (.ref b301), .val (.ref b224), .val (.long r3), .second, .unset, .unset] [(.ref b301), (.ref b311), (.ref b311)]))) (fun _ kk => XS.dup X311.here hx rfl (hb hby at_223) rfl rfl (XS.aload X311.here hx rfl (hb hby at_224) rfl rfl kk)) ?_
      have cf_312 := ((((cf_305.keep K306).keep K308).keep K310).ext E311)
      have cf_313 := (((cf_307.keep K308).keep K310).ext E311)
      have cf_314 := ((cf_309.keep K310).ext E311)
      have cf_315 := ((((cf_304.keep K306 (allS (by first | omega | exact own_ne (by omega) | exact own_le (by omega)) all0)).keep K308 (allS (by first | omega | exact own_ne (by omega) | exact own_le (by omega)) (allS (by first | omega | exact own_ne (by omega) | exact own_le (by omega)) all0))).keep K310 (allS (by first | omega | exact own_ne (by omega) | exact own_le (by omega)) (allS (by first | omega | exact own_ne (by omega) | exact own_le (by omega)) all0))).ext E311)
      have cf_316 := (A310.1.ext E311)
      have cf_317 := (A310.2.1.ext E311)
      have cf_318 := (A310.2.2.1.ext E311)
      have cf_319 := (A310.2.2.2.ext E311)
      have cf_320 := (V310.ext E311)
      have cf_321 := (((XE306.keep K308).keep K310).ext E311)
      have cf_322 := ((((((A300.2.ext E301).keep K303 (ninS (by first | omega | exact own_ne (by omega) | exact own_le (by omega)) nin0)).keep K306 (ninS (by first | omega | exact own_ne (by omega) | exact own_le (by omega)) nin0)).keep K308 (ninS (by first | omega | exact own_ne (by omega) | exact own_le (by omega)) (ninS (by first | omega | exact own_ne (by omega) | exact own_le (by omega)) nin0))).keep K310 (ninS (by first | omega | exact own_ne (by omega) | exact own_le (by omega)) (ninS (by first | omega | exact own_ne (by omega) | exact own_le (by omega)) nin0))).ext E311)
      obtain ⟨_, _, ⟨T323, L323, k323, n323⟩, -, X323, ⟨Lc323, hQ323, l323, y323, z323⟩, st323⟩ := X311.specialBack hx (y := MN3) rfl hown (mvT hZ (wd 150 rfl)) (mvT hZ (wd 151 rfl)) (mvT hZ (wd 152 rfl)) (by decide) (backOf (W := 1) (lim_3 l Z a0 hw [] b311 b301 _ b306 ((((0 : Int32) + (1 : Int32)) + (1 : Int32)) + (1 : Int32)) k306 b227 b237 b292 mr b224 h311 n0 (by omega) ⟨cf_316, cf_317, cf_318, cf_319⟩ M cf_320 (Ins.of_exa cf_312 (wd 146 rfl)) (Ins.of_exa cf_313 (wd 146 rfl)) (Ins.of_exa cf_314 (wd 146 rfl)) cf_321 A311 F311_descriptors (by first | omega | exact own_ne (by omega) | exact own_le (by omega)) cf_314 cf_322) hZ (wd 152 rfl) (wd 149 rfl) (by decide) (by decide)) (g := (mkF m 226 #[.val (.int cnt), .val (.int fl), .val (.long r1), .second, .val (.long r2), .second, .val (.long r3), .second, .val (.int (3 : Int32)), .val (.ref b218), .val (.ref b221), .val (.ref b224), .val (.ref b227), .val (.ref b237), .val (.ref b292), .val (.ref b301), .val (.ref b224), .val (.long r3), .second, .unset, .unset] [(.ref b301), (.ref b311), (.ref b311)])) rfl (by rw [hml]; rfl) (Steps.refl _) (a := b311) (argsL := [(.ref b301)]) (rest := [(.ref b311)]) (lenOf pd__Ljava_util_List__V rfl) rfl (Nat.le_of_eq rfl) (hb hby at_226) (fun _ _ => ⟨rfl, e311, (by decide : 21 + 3 ≤ _), (by decide : 116 + 8 ≤ _)⟩)
      dsimp only [Pt.U, Pt.locs, Pt.cells, Pt.slots] at X323 l323 y323 z323 st323 hQ323
      subst l323 y323 z323
      obtain ⟨t323, d323, k323, rfl, N323q, lo323, K323, E323, F323, A323, -⟩ := hQ323
      have lo323 := own_nle lo323
      have N323 := Fr.app N310 N323q
      have sz323 := K323.1
      refine go_tr (B := (T323.setTop (mkF m 229 #[.val (.int cnt), .val (.int fl), .val (.long r1), .second, .val (.long r2), .second, .val (.long r3), .second, .val (.int (3 : Int32)), .val (.ref b218), .val (.ref b221), .val (.ref b224), .val (.ref b227), .val (.ref b237), .val (.ref b292), .val (.ref b301), .val (.ref b224), .val (.long r3), .second, .unset, .unset] [(.ref b311)]))) (st323) ?_
      refine go_of (B := (T323.setTop (mkF m 233 #[.val (.int cnt), .val (.int fl), .val (.long r1), .second, .val (.long r2), .second, .val (.long r3), .second, .val (.int (3 : Int32)), .val (.ref b218), .val (.ref b221), .val (.ref b224), .val (.ref b227), .val (.ref b237), .val (.ref b292), .val (.ref b301), .val (.ref b224), .val (.long r3), .second, .val (.ref b311), .unset] [(.ref b311)]))) (fun _ kk => XS.astore X323.here hx rfl (hb hby at_229) rfl rfl rfl (XS.aload X323.here hx rfl (hb hby at_231) rfl rfl kk)) ?_
      have cf_324 := (cf_314.keep K323)
      have cf_325 := (cf_322.keep K323 (ninS (by first | omega | exact own_ne (by omega) | exact own_le (by omega)) nin0))
      obtain ⟨cq326, kq326, q326a, q326b, q326c⟩ := isOf hZ rfl E323
      obtain ⟨_, _, ⟨T326, L326, k326, n326⟩, -, X326, ⟨Lc326, hQ326, l326, y326, z326⟩, st326⟩ := X323.virtualBack hx (y := MN4) (z := MN4) hown (mvT hZ (wd 262 rfl)) (mvT hZ (wd 263 rfl)) (notFace_of_selects (args := #[]) (mvT hZ (wd 265 rfl))) (mvT hZ (wd 265 rfl)) (mvT hZ (wd 264 rfl)) (by decide) (backOf (W := 0) (lr_3 l Z a0 hw [] b311 t323 b227 b237 b292 d323 k323 b224 T323.heap n0 (by omega) F323 A323 cf_324 cf_325) hZ (wd 266 rfl) (wd 149 rfl) (by decide) (by decide)) q326a q326c (g := (mkF m 233 #[.val (.int cnt), .val (.int fl), .val (.long r1), .second, .val (.long r2), .second, .val (.long r3), .second, .val (.int (3 : Int32)), .val (.ref b218), .val (.ref b221), .val (.ref b224), .val (.ref b227), .val (.ref b237), .val (.ref b292), .val (.ref b301), .val (.ref b224), .val (.long r3), .second, .val (.ref b311), .unset] [(.ref b311)])) rfl (by rw [hml]; rfl) (Steps.refl _) (argsL := []) (rest := []) (lenOf pd___Lcom_example_wombat_wombat_rules_RateLimit_ rfl) rfl (Nat.le_of_eq rfl) (hb hby at_233) (fun _ _ => ⟨rfl, rfl, (by decide : 24 + 0 ≤ _), (by decide : 124 + 0 ≤ _)⟩)
      dsimp only [Pt.U, Pt.locs, Pt.cells, Pt.slots] at X326 l326 y326 z326 st326 hQ326
      subst l326 y326 z326
      obtain ⟨rfl, N326q, e326⟩ := hQ326
      have N326 := Fr.app N323 N326q
      refine go_tr (B := (T326.setTop (mkF m 236 #[.val (.int cnt), .val (.int fl), .val (.long r1), .second, .val (.long r2), .second, .val (.long r3), .second, .val (.int (3 : Int32)), .val (.ref b218), .val (.ref b221), .val (.ref b224), .val (.ref b227), .val (.ref b237), .val (.ref b292), .val (.ref b301), .val (.ref b224), .val (.long r3), .second, .val (.ref b311), .unset] [(.ref b224)]))) (st326) ?_
      refine go_of (B := (T326.setTop (mkF m 247 #[.val (.int cnt), .val (.int fl), .val (.long r1), .second, .val (.long r2), .second, .val (.long r3), .second, .val (.int (3 : Int32)), .val (.ref b218), .val (.ref b221), .val (.ref b224), .val (.ref b227), .val (.ref b237), .val (.ref b292), .val (.ref b301), .val (.ref b224), .val (.long r3), .second, .val (.ref b311), .val (.ref b224)] [(.ref b224)]))) (fun _ kk => XS.astore X326.here hx rfl (hb hby at_236) rfl rfl rfl (XS.aload X326.here hx rfl (hb hby at_238) rfl rfl (XS.aload X326.here hx rfl (hb hby at_240) rfl rfl (Jvm.RoadKit.acmp (g := (mkF m 242 #[.val (.int cnt), .val (.int fl), .val (.long r1), .second, .val (.long r2), .second, .val (.long r3), .second, .val (.int (3 : Int32)), .val (.ref b218), .val (.ref b221), .val (.ref b224), .val (.ref b227), .val (.ref b237), .val (.ref b292), .val (.ref b301), .val (.ref b224), .val (.long r3), .second, .val (.ref b311), .val (.ref b224)] [(.ref b224), (.ref b224)])) X326 hx rfl rfl rfl (pc0 := 242) (pc' := 245) (same := true) rfl (hb hby at_242) rfl (decide_eq_true rfl) (by decide) (by decide) (XS.aload X326.here hx rfl (hb hby at_245) rfl rfl kk))))) ?_
      have cf_327 := ((((((((((((((((A226.2.ext E227).ext E228).keep K236 (ninS (by first | omega | exact own_ne (by omega) | exact own_le (by omega)) nin0)).ext E237).ext E238).keep K291 (ninS (by first | omega | exact own_ne (by omega) | exact own_le (by omega)) nin0)).ext E292).ext E293).keep K300 (ninS (by first | omega | exact own_ne (by omega) | exact own_le (by omega)) nin0)).ext E301).keep K303 (ninS (by first | omega | exact own_ne (by omega) | exact own_le (by omega)) nin0)).keep K306 (ninS (by first | omega | exact own_ne (by omega) | exact own_le (by omega)) nin0)).keep K308 (ninS (by first | omega | exact own_ne (by omega) | exact own_le (by omega)) (ninS (by first | omega | exact own_ne (by omega) | exact own_le (by omega)) nin0))).keep K310 (ninS (by first | omega | exact own_ne (by omega) | exact own_le (by omega)) (ninS (by first | omega | exact own_ne (by omega) | exact own_le (by omega)) nin0))).ext E311).keep K323 (ninS (by first | omega | exact own_ne (by omega) | exact own_le (by omega)) nin0))
      have cf_329 := ((((((((((((((((A226.1.ext E227).ext E228).keep K236).ext E237).ext E238).keep K291).ext E292).ext E293).keep K300).ext E301).keep K303).keep K306).keep K308).keep K310).ext E311).keep K323)
      obtain ⟨cq328, kq328, q328a, q328b, q328c⟩ := isOf hZ e326 cf_329
      obtain ⟨_, _, ⟨T328, L328, k328, n328⟩, -, X328, ⟨Lc328, hQ328, l328, y328, z328⟩, st328⟩ := X326.virtualBack hx (y := MN6) (z := MN6) hown (mvT hZ (wd 267 rfl)) (mvT hZ (wd 268 rfl)) (notFace_of_selects (args := #[]) (mvT hZ (wd 270 rfl))) (mvT hZ (wd 270 rfl)) (mvT hZ (wd 269 rfl)) (by decide) (backOf (W := 0) (rpu l Z a0 hw [] b224 r3 T323.heap n0 (by omega) cf_327) hZ (wd 271 rfl) (wd 3 rfl) (by decide) (by decide)) q328a q328c (g := (mkF m 247 #[.val (.int cnt), .val (.int fl), .val (.long r1), .second, .val (.long r2), .second, .val (.long r3), .second, .val (.int (3 : Int32)), .val (.ref b218), .val (.ref b221), .val (.ref b224), .val (.ref b227), .val (.ref b237), .val (.ref b292), .val (.ref b301), .val (.ref b224), .val (.long r3), .second, .val (.ref b311), .val (.ref b224)] [(.ref b224)])) rfl (by rw [hml]; rfl) (Steps.refl _) (argsL := []) (rest := []) (lenOf pd___J rfl) rfl (Nat.le_of_eq rfl) (hb hby at_247) (fun _ _ => ⟨rfl, e326, (by decide : 24 + 0 ≤ _), (by decide : 124 + 0 ≤ _)⟩)
      dsimp only [Pt.U, Pt.locs, Pt.cells, Pt.slots] at X328 l328 y328 z328 st328 hQ328
      subst l328 y328 z328
      obtain ⟨rfl, N328q, e328⟩ := hQ328
      have N328 := Fr.app N326 N328q
      refine go_tr (B := (T328.setTop (mkF m 250 #[.val (.int cnt), .val (.int fl), .val (.long r1), .second, .val (.long r2), .second, .val (.long r3), .second, .val (.int (3 : Int32)), .val (.ref b218), .val (.ref b221), .val (.ref b224), .val (.ref b227), .val (.ref b237), .val (.ref b292), .val (.ref b301), .val (.ref b224), .val (.long r3), .second, .val (.ref b311), .val (.ref b224)] [(.long r3)]))) (st328) ?_
      refine go_of (B := (T328.setTop (mkF m 261 #[.val (.int cnt), .val (.int fl), .val (.long r1), .second, .val (.long r2), .second, .val (.long r3), .second, .val (.int (3 : Int32)), .val (.ref b218), .val (.ref b221), .val (.ref b224), .val (.ref b227), .val (.ref b237), .val (.ref b292), .val (.ref b301), .val (.ref b224), .val (.long r3), .second, .val (.ref b311), .val (.ref b224)] [(.int (1 : Int32))]))) (fun _ kk => XS.lload X328.here hx rfl (hb hby at_250) rfl (XS.lcmp X328.here hx rfl (hb hby at_252) rfl (XS.ifNo X328.here hx rfl (hb hby at_253) rfl ((if0 _ _).trans (teq ((lw_eq _ _).mpr rfl)).2) (XS.iconst X328.here hx rfl (hb hby at_256) (XS.goto X328.here hx rfl (pc0 := 257) (pc' := 261) rfl (hb hby at_257) (by decide) (by decide) kk))))) ?_
      refine go_endW X328 hS (by rw [e328]; omega) (v := some (.int (nar .boolean (1 : Int32)))) (fun h => by rw [hret] at h; cases h) hlk (by decide) (by decide) (Q := (Q_rm0 Z cnt fl r1 r2 r3 wT wA wE wM wD kD mr h0 n0)) ?_ (fun fs hr => retN X328 hx (t := .boolean) hret (by simp) (hb hby at_261) hr)
      unfold Q_rm0
      try rw [e328]
      exact ⟨rfl, N328⟩
  · refine go_of (B := (T228.setTop (mkF m 77 #[.val (.int cnt), .val (.int fl), .val (.long r1), .second, .val (.long r2), .second, .val (.long r3), .second, .val (.int (3 : Int32)), .val (.ref b218), .val (.ref b221), .val (.ref b224), .unset, .unset, .unset, .unset, .unset, .unset, .unset, .unset, .unset] [(.ref b218), (.ref b228), (.ref b227), (.ref b227)]))) (fun _ kk => XS.ifNo X228.here hx rfl (hb hby at_68) rfl ((if0 _ _).trans (feq hcc229).1) (XS.aload X228.here hx rfl (hb hby at_71) rfl rfl (XS.goto X228.here hx rfl (pc0 := 73) (pc' := 77) rfl (hb hby at_73) (by decide) (by decide) kk))) ?_
    have cf_330 := (((cf_225.keep K226 (allS (by first | omega | exact own_ne (by omega) | exact own_le (by omega)) all0)).ext E227).ext E228)
    have cf_331 := (A227.ext E228)
    have cf_332 := (F227_key.ext E228)
    have cf_333 := (F227_value.ext E228)
    have cf_334 := (F227_rateLimit.ext E228)
    have cf_335 := (F227_descriptors.ext E228)
    obtain ⟨_, _, ⟨T336, L336, k336, n336⟩, -, X336', hS336', gr336, ⟨Lc336, hQ336, l336, y336, z336⟩, st336⟩ := X228.specialBackS hx (y := MN0) rfl hown (mvT hZ (wd 46 rfl)) (mvT hZ (wd 47 rfl)) (mvT hZ (wd 48 rfl)) (by decide) (backOfS (W := 1) (ds2r l Z a0 hw [] b227 b228 b218 wE _ _ _ _ h228 n0 (by omega) cf_330 SE EE FE cf_331 cf_332 cf_333 cf_334 cf_335 (by first | omega | exact own_ne (by omega) | exact own_le (by omega))) hZ (wd 48 rfl) (wd 37 rfl) (by decide) (by decide)) (g := (mkF m 77 #[.val (.int cnt), .val (.int fl), .val (.long r1), .second, .val (.long r2), .second, .val (.long r3), .second, .val (.int (3 : Int32)), .val (.ref b218), .val (.ref b221), .val (.ref b224), .unset, .unset, .unset, .unset, .unset, .unset, .unset, .unset, .unset] [(.ref b218), (.ref b228), (.ref b227), (.ref b227)])) rfl (by rw [hml]; rfl) (Steps.refl _) (a := b227) (argsL := [(.ref b228), (.ref b218)]) (rest := [(.ref b227)]) (lenOf pd__Ljava_lang_String_Lcom_example_wombat_wombat_rules_RateLimit__V rfl) rfl (Nat.le_of_eq rfl) (hb hby at_77) (fun _ _ => ⟨rfl, e228, (by decide : 6 + 2 ≤ _), (by decide : 30 + 16 ≤ _)⟩)
    dsimp only [Pt.U, Pt.locs, Pt.cells, Pt.slots] at X336' hS336' gr336 l336 y336 z336 st336 hQ336
    subst l336 y336 z336
    have X336 : Stand _ _ _ _ (s.setVm T336.vm) _ _ _ _ _ T336 _ _ _ := X336'
    have hS : s.Since T336.vm T336.heap.size := foldS hS (by rw [e228]; omega) hS336' gr336
    have hZ : Z.Warmed39 (s.setVm T336.vm).vm := State.Warmed39.trans (t := s.setVm T228.vm) hZ hS336'.1
    have hown : (s.setVm T336.vm).vm.findClass "com/example/wombat/wombat/rules/LimitRateLimitPinLaw" = some m.cls := by rw [show (s.setVm T336.vm).vm = T336.vm from rfl, hS336'.1.alike.findClass]; exact hown
    obtain ⟨rfl, N336q, K336, A336⟩ := hQ336
    have N336 := Fr.app N226 N336q
    have sz336 := K336.1
    refine go_tr (B := (T336.setTop (mkF m 80 #[.val (.int cnt), .val (.int fl), .val (.long r1), .second, .val (.long r2), .second, .val (.long r3), .second, .val (.int (3 : Int32)), .val (.ref b218), .val (.ref b221), .val (.ref b224), .unset, .unset, .unset, .unset, .unset, .unset, .unset, .unset, .unset] [(.ref b227)]))) (st336) ?_
    refine go_of (B := (T336.setTop (mkF m 82 #[.val (.int cnt), .val (.int fl), .val (.long r1), .second, .val (.long r2), .second, .val (.long r3), .second, .val (.int (3 : Int32)), .val (.ref b218), .val (.ref b221), .val (.ref b224), .val (.ref b227), .unset, .unset, .unset, .unset, .unset, .unset, .unset, .unset] []))) (fun _ kk => XS.astore X336.here hx rfl (hb hby at_80) rfl rfl rfl kk) ?_
    obtain ⟨T337, h337, X337, e337, E337, A337, D337, -, st337⟩ := newO X336 hx hZ hown (wd 35 rfl) (wd 36 rfl) (wd 37 rfl) rfl (g := (mkF m 82 #[.val (.int cnt), .val (.int fl), .val (.long r1), .second, .val (.long r2), .second, .val (.long r3), .second, .val (.int (3 : Int32)), .val (.ref b218), .val (.ref b221), .val (.ref b224), .val (.ref b227), .unset, .unset, .unset, .unset, .unset, .unset, .unset, .unset] [])) rfl (hb hby at_82) (by decide) (by decide)
    obtain ⟨b337, g337⟩ : ∃ z, z = T336.heap.size := ⟨_, rfl⟩
    rw [← g337] at A337 D337 st337
    have hi337 := own_nlt A337.lt
    have sz337 := E337.1
    have F337_key : Fld Z h337 b337 "com/example/wombat/wombat/rules/Descriptor" "key" "Ljava/lang/String;" .null := D337 (Or.inr (wd 83 rfl)) (ty := (.object "java/lang/String")) (by decide)
    have F337_value : Fld Z h337 b337 "com/example/wombat/wombat/rules/Descriptor" "value" "Ljava/lang/String;" .null := D337 (Or.inr (wd 85 rfl)) (ty := (.object "java/lang/String")) (by decide)
    have F337_rateLimit : Fld Z h337 b337 "com/example/wombat/wombat/rules/Descriptor" "rateLimit" "Lcom/example/wombat/wombat/rules/RateLimit;" .null := D337 (Or.inr (wd 87 rfl)) (ty := (.object "com/example/wombat/wombat/rules/RateLimit")) (by decide)
    have F337_descriptors : Fld Z h337 b337 "com/example/wombat/wombat/rules/Descriptor" "descriptors" "Ljava/util/List;" .null := D337 (Or.inr (wd 89 rfl)) (ty := (.object "java/util/List")) (by decide)
    refine go_of (B := (T337.setTop (mkF m 85 #[.val (.int cnt), .val (.int fl), .val (.long r1), .second, .val (.long r2), .second, .val (.long r3), .second, .val (.int (3 : Int32)), .val (.ref b218), .val (.ref b221), .val (.ref b224), .val (.ref b227), .unset, .unset, .unset, .unset, .unset, .unset, .unset, .unset] [(.ref b337)]))) (st337) ?_
    refine go_of (B := (T337.setTop (mkF m 86 #[.val (.int cnt), .val (.int fl), .val (.long r1), .second, .val (.long r2), .second, .val (.long r3), .second, .val (.int (3 : Int32)), .val (.ref b218), .val (.ref b221), .val (.ref b224), .val (.ref b227), .unset, .unset, .unset, .unset, .unset, .unset, .unset, .unset] [(.ref b337), (.ref b337)]))) (fun _ kk => XS.dup X337.here hx rfl (hb hby at_85) rfl rfl kk) ?_
    obtain ⟨b338, T338, h338, k338, X338, e338, E338, hS, hk338, hZ, hown, st338⟩ := ldcS X337 hx hZ hown (wd 90 rfl) (own_wS hw) e337 hS (by first | omega | exact own_ne (by omega) | exact own_le (by omega)) (g := (mkF m 86 #[.val (.int cnt), .val (.int fl), .val (.long r1), .second, .val (.long r2), .second, .val (.long r3), .second, .val (.int (3 : Int32)), .val (.ref b218), .val (.ref b221), .val (.ref b224), .val (.ref b227), .unset, .unset, .unset, .unset, .unset, .unset, .unset, .unset] [(.ref b337), (.ref b337)])) rfl (hb hby at_86) (n := 4) (by decide) (by decide) (by decide) (by decide)
    have sz338 := E338.1
    refine go_of (B := (T338.setTop (mkF m 88 #[.val (.int cnt), .val (.int fl), .val (.long r1), .second, .val (.long r2), .second, .val (.long r3), .second, .val (.int (3 : Int32)), .val (.ref b218), .val (.ref b221), .val (.ref b224), .val (.ref b227), .unset, .unset, .unset, .unset, .unset, .unset, .unset, .unset] [(.ref b338), (.ref b337), (.ref b337)]))) (st338) ?_
    refine go_of (B := (T338.setTop (mkF m 97 #[.val (.int cnt), .val (.int fl), .val (.long r1), .second, .val (.long r2), .second, .val (.long r3), .second, .val (.int (3 : Int32)), .val (.ref b218), .val (.ref b221), .val (.ref b224), .val (.ref b227), .unset, .unset, .unset, .unset, .unset, .unset, .unset, .unset] [(.int (fl &&& (2 : Int32))), (.ref b338), (.ref b337), (.ref b337)]))) (fun _ kk => XS.iload X338.here hx rfl (hb hby at_88) rfl (XS.iconst X338.here hx rfl (hb hby at_90) (XS.icmpNo X338.here hx rfl (hb hby at_91) rfl (feq (by decide : ¬ ((3 : Int32) = (2 : Int32)))).1 (XS.iloadN X338.here hx rfl (hb hby at_94) rfl (XS.iconst X338.here hx rfl (hb hby at_95) (XS.iand X338.here hx rfl (hb hby at_96) rfl kk)))))) ?_
    by_cases hcc339 : (fl &&& (2 : Int32)) = (0 : Int32)
    · refine go_of (B := (T338.setTop (mkF m 106 #[.val (.int cnt), .val (.int fl), .val (.long r1), .second, .val (.long r2), .second, .val (.long r3), .second, .val (.int (3 : Int32)), .val (.ref b218), .val (.ref b221), .val (.ref b224), .val (.ref b227), .unset, .unset, .unset, .unset, .unset, .unset, .unset, .unset] [.null, (.ref b338), (.ref b337), (.ref b337)]))) (fun _ kk => XS.ifYes X338.here hx rfl (pc0 := 97) (pc' := 105) rfl (hb hby at_97) rfl ((if0 _ _).trans (teq hcc339).1) (by decide) (by decide) (XS.aconstNull X338.here hx rfl (hb hby at_105) kk)) ?_
      have cf_340 := (((cf_330.keep K336 (allS (by first | omega | exact own_ne (by omega) | exact own_le (by omega)) all0)).ext E337).ext E338)
      have cf_341 := (A337.ext E338)
      have cf_342 := (F337_key.ext E338)
      have cf_343 := (F337_value.ext E338)
      have cf_344 := (F337_rateLimit.ext E338)
      have cf_345 := (F337_descriptors.ext E338)
      obtain ⟨_, _, ⟨T346, L346, k346, n346⟩, -, X346', hS346', gr346, ⟨Lc346, hQ346, l346, y346, z346⟩, st346⟩ := X338.specialBackS hx (y := MN0) rfl hown (mvT hZ (wd 46 rfl)) (mvT hZ (wd 47 rfl)) (mvT hZ (wd 48 rfl)) (by decide) (backOfS (W := 1) (ds2n l Z a0 hw [] b337 b338 wE _ _ _ _ h338 n0 (by omega) cf_340 SE EE FE cf_341 cf_342 cf_343 cf_344 cf_345 (by first | omega | exact own_ne (by omega) | exact own_le (by omega))) hZ (wd 48 rfl) (wd 37 rfl) (by decide) (by decide)) (g := (mkF m 106 #[.val (.int cnt), .val (.int fl), .val (.long r1), .second, .val (.long r2), .second, .val (.long r3), .second, .val (.int (3 : Int32)), .val (.ref b218), .val (.ref b221), .val (.ref b224), .val (.ref b227), .unset, .unset, .unset, .unset, .unset, .unset, .unset, .unset] [.null, (.ref b338), (.ref b337), (.ref b337)])) rfl (by rw [hml]; rfl) (Steps.refl _) (a := b337) (argsL := [(.ref b338), .null]) (rest := [(.ref b337)]) (lenOf pd__Ljava_lang_String_Lcom_example_wombat_wombat_rules_RateLimit__V rfl) rfl (Nat.le_of_eq rfl) (hb hby at_106) (fun _ _ => ⟨rfl, e338, (by decide : 11 + 2 ≤ _), (by decide : 58 + 16 ≤ _)⟩)
      dsimp only [Pt.U, Pt.locs, Pt.cells, Pt.slots] at X346' hS346' gr346 l346 y346 z346 st346 hQ346
      subst l346 y346 z346
      have X346 : Stand _ _ _ _ (s.setVm T346.vm) _ _ _ _ _ T346 _ _ _ := X346'
      have hS : s.Since T346.vm T346.heap.size := foldS hS (by rw [e338]; omega) hS346' gr346
      have hZ : Z.Warmed39 (s.setVm T346.vm).vm := State.Warmed39.trans (t := s.setVm T338.vm) hZ hS346'.1
      have hown : (s.setVm T346.vm).vm.findClass "com/example/wombat/wombat/rules/LimitRateLimitPinLaw" = some m.cls := by rw [show (s.setVm T346.vm).vm = T346.vm from rfl, hS346'.1.alike.findClass]; exact hown
      obtain ⟨rfl, N346q, K346, A346⟩ := hQ346
      have N346 := Fr.app N336 N346q
      have sz346 := K346.1
      refine go_tr (B := (T346.setTop (mkF m 109 #[.val (.int cnt), .val (.int fl), .val (.long r1), .second, .val (.long r2), .second, .val (.long r3), .second, .val (.int (3 : Int32)), .val (.ref b218), .val (.ref b221), .val (.ref b224), .val (.ref b227), .unset, .unset, .unset, .unset, .unset, .unset, .unset, .unset] [(.ref b337)]))) (st346) ?_
      refine go_of (B := (T346.setTop (mkF m 111 #[.val (.int cnt), .val (.int fl), .val (.long r1), .second, .val (.long r2), .second, .val (.long r3), .second, .val (.int (3 : Int32)), .val (.ref b218), .val (.ref b221), .val (.ref b224), .val (.ref b227), .val (.ref b337), .unset, .unset, .unset, .unset, .unset, .unset, .unset] []))) (fun _ kk => XS.astore X346.here hx rfl (hb hby at_109) rfl rfl rfl kk) ?_
      obtain ⟨T347, h347, X347, e347, E347, A347, D347, -, st347⟩ := newO X346 hx hZ hown (wd 35 rfl) (wd 36 rfl) (wd 37 rfl) rfl (g := (mkF m 111 #[.val (.int cnt), .val (.int fl), .val (.long r1), .second, .val (.long r2), .second, .val (.long r3), .second, .val (.int (3 : Int32)), .val (.ref b218), .val (.ref b221), .val (.ref b224), .val (.ref b227), .val (.ref b337), .unset, .unset, .unset, .unset, .unset, .unset, .unset] [])) rfl (hb hby at_111) (by decide) (by decide)
      obtain ⟨b347, g347⟩ : ∃ z, z = T346.heap.size := ⟨_, rfl⟩
      rw [← g347] at A347 D347 st347
      have hi347 := own_nlt A347.lt
      have sz347 := E347.1
      have F347_key : Fld Z h347 b347 "com/example/wombat/wombat/rules/Descriptor" "key" "Ljava/lang/String;" .null := D347 (Or.inr (wd 83 rfl)) (ty := (.object "java/lang/String")) (by decide)
      have F347_value : Fld Z h347 b347 "com/example/wombat/wombat/rules/Descriptor" "value" "Ljava/lang/String;" .null := D347 (Or.inr (wd 85 rfl)) (ty := (.object "java/lang/String")) (by decide)
      have F347_rateLimit : Fld Z h347 b347 "com/example/wombat/wombat/rules/Descriptor" "rateLimit" "Lcom/example/wombat/wombat/rules/RateLimit;" .null := D347 (Or.inr (wd 87 rfl)) (ty := (.object "com/example/wombat/wombat/rules/RateLimit")) (by decide)
      have F347_descriptors : Fld Z h347 b347 "com/example/wombat/wombat/rules/Descriptor" "descriptors" "Ljava/util/List;" .null := D347 (Or.inr (wd 89 rfl)) (ty := (.object "java/util/List")) (by decide)
      refine go_of (B := (T347.setTop (mkF m 114 #[.val (.int cnt), .val (.int fl), .val (.long r1), .second, .val (.long r2), .second, .val (.long r3), .second, .val (.int (3 : Int32)), .val (.ref b218), .val (.ref b221), .val (.ref b224), .val (.ref b227), .val (.ref b337), .unset, .unset, .unset, .unset, .unset, .unset, .unset] [(.ref b347)]))) (st347) ?_
      refine go_of (B := (T347.setTop (mkF m 115 #[.val (.int cnt), .val (.int fl), .val (.long r1), .second, .val (.long r2), .second, .val (.long r3), .second, .val (.int (3 : Int32)), .val (.ref b218), .val (.ref b221), .val (.ref b224), .val (.ref b227), .val (.ref b337), .unset, .unset, .unset, .unset, .unset, .unset, .unset] [(.ref b347), (.ref b347)]))) (fun _ kk => XS.dup X347.here hx rfl (hb hby at_114) rfl rfl kk) ?_
      obtain ⟨b348, T348, h348, k348, X348, e348, E348, hS, hk348, hZ, hown, st348⟩ := ldcS X347 hx hZ hown (wd 91 rfl) (own_wS hw) e347 hS (by first | omega | exact own_ne (by omega) | exact own_le (by omega)) (g := (mkF m 115 #[.val (.int cnt), .val (.int fl), .val (.long r1), .second, .val (.long r2), .second, .val (.long r3), .second, .val (.int (3 : Int32)), .val (.ref b218), .val (.ref b221), .val (.ref b224), .val (.ref b227), .val (.ref b337), .unset, .unset, .unset, .unset, .unset, .unset, .unset] [(.ref b347), (.ref b347)])) rfl (hb hby at_115) (n := 4) (by decide) (by decide) (by decide) (by decide)
      have sz348 := E348.1
      refine go_of (B := (T348.setTop (mkF m 117 #[.val (.int cnt), .val (.int fl), .val (.long r1), .second, .val (.long r2), .second, .val (.long r3), .second, .val (.int (3 : Int32)), .val (.ref b218), .val (.ref b221), .val (.ref b224), .val (.ref b227), .val (.ref b337), .unset, .unset, .unset, .unset, .unset, .unset, .unset] [(.ref b348), (.ref b347), (.ref b347)]))) (st348) ?_
      refine go_of (B := (T348.setTop (mkF m 119 #[.val (.int cnt), .val (.int fl), .val (.long r1), .second, .val (.long r2), .second, .val (.long r3), .second, .val (.int (3 : Int32)), .val (.ref b218), .val (.ref b221), .val (.ref b224), .val (.ref b227), .val (.ref b337), .unset, .unset, .unset, .unset, .unset, .unset, .unset] [(.ref b224), (.ref b348), (.ref b347), (.ref b347)]))) (fun _ kk => XS.aload X348.here hx rfl (hb hby at_117) rfl rfl kk) ?_
      have cf_349 := (((cf_340.keep K346 (allS (by first | omega | exact own_ne (by omega) | exact own_le (by omega)) all0)).ext E347).ext E348)
      have cf_350 := (A347.ext E348)
      have cf_351 := (F347_key.ext E348)
      have cf_352 := (F347_value.ext E348)
      have cf_353 := (F347_rateLimit.ext E348)
      have cf_354 := (F347_descriptors.ext E348)
      obtain ⟨_, _, ⟨T355, L355, k355, n355⟩, -, X355', hS355', gr355, ⟨Lc355, hQ355, l355, y355, z355⟩, st355⟩ := X348.specialBackS hx (y := MN0) rfl hown (mvT hZ (wd 46 rfl)) (mvT hZ (wd 47 rfl)) (mvT hZ (wd 48 rfl)) (by decide) (backOfS (W := 1) (ds2r l Z a0 hw [] b347 b348 b224 wE _ _ _ _ h348 n0 (by omega) cf_349 SE EE FE cf_350 cf_351 cf_352 cf_353 cf_354 (by first | omega | exact own_ne (by omega) | exact own_le (by omega))) hZ (wd 48 rfl) (wd 37 rfl) (by decide) (by decide)) (g := (mkF m 119 #[.val (.int cnt), .val (.int fl), .val (.long r1), .second, .val (.long r2), .second, .val (.long r3), .second, .val (.int (3 : Int32)), .val (.ref b218), .val (.ref b221), .val (.ref b224), .val (.ref b227), .val (.ref b337), .unset, .unset, .unset, .unset, .unset, .unset, .unset] [(.ref b224), (.ref b348), (.ref b347), (.ref b347)])) rfl (by rw [hml]; rfl) (Steps.refl _) (a := b347) (argsL := [(.ref b348), (.ref b224)]) (rest := [(.ref b347)]) (lenOf pd__Ljava_lang_String_Lcom_example_wombat_wombat_rules_RateLimit__V rfl) rfl (Nat.le_of_eq rfl) (hb hby at_119) (fun _ _ => ⟨rfl, e348, (by decide : 16 + 2 ≤ _), (by decide : 86 + 16 ≤ _)⟩)
      dsimp only [Pt.U, Pt.locs, Pt.cells, Pt.slots] at X355' hS355' gr355 l355 y355 z355 st355 hQ355
      subst l355 y355 z355
      have X355 : Stand _ _ _ _ (s.setVm T355.vm) _ _ _ _ _ T355 _ _ _ := X355'
      have hS : s.Since T355.vm T355.heap.size := foldS hS (by rw [e348]; omega) hS355' gr355
      have hZ : Z.Warmed39 (s.setVm T355.vm).vm := State.Warmed39.trans (t := s.setVm T348.vm) hZ hS355'.1
      have hown : (s.setVm T355.vm).vm.findClass "com/example/wombat/wombat/rules/LimitRateLimitPinLaw" = some m.cls := by rw [show (s.setVm T355.vm).vm = T355.vm from rfl, hS355'.1.alike.findClass]; exact hown
      obtain ⟨rfl, N355q, K355, A355⟩ := hQ355
      have N355 := Fr.app N346 N355q
      have sz355 := K355.1
      refine go_tr (B := (T355.setTop (mkF m 122 #[.val (.int cnt), .val (.int fl), .val (.long r1), .second, .val (.long r2), .second, .val (.long r3), .second, .val (.int (3 : Int32)), .val (.ref b218), .val (.ref b221), .val (.ref b224), .val (.ref b227), .val (.ref b337), .unset, .unset, .unset, .unset, .unset, .unset, .unset] [(.ref b347)]))) (st355) ?_
      refine go_of (B := (T355.setTop (mkF m 124 #[.val (.int cnt), .val (.int fl), .val (.long r1), .second, .val (.long r2), .second, .val (.long r3), .second, .val (.int (3 : Int32)), .val (.ref b218), .val (.ref b221), .val (.ref b224), .val (.ref b227), .val (.ref b337), .val (.ref b347), .unset, .unset, .unset, .unset, .unset, .unset] []))) (fun _ kk => XS.astore X355.here hx rfl (hb hby at_122) rfl rfl rfl kk) ?_
      obtain ⟨T356, h356, X356, e356, E356, A356, D356, -, st356⟩ := newO X355 hx hZ hown (wd 92 rfl) (wd 93 rfl) (wd 94 rfl) rfl (g := (mkF m 124 #[.val (.int cnt), .val (.int fl), .val (.long r1), .second, .val (.long r2), .second, .val (.long r3), .second, .val (.int (3 : Int32)), .val (.ref b218), .val (.ref b221), .val (.ref b224), .val (.ref b227), .val (.ref b337), .val (.ref b347), .unset, .unset, .unset, .unset, .unset, .unset] [])) rfl (hb hby at_124) (by decide) (by decide)
      obtain ⟨b356, g356⟩ : ∃ z, z = T355.heap.size := ⟨_, rfl⟩
      rw [← g356] at A356 D356 st356
      have hi356 := own_nlt A356.lt
      have sz356 := E356.1
      have F356_modCount : Fld Z h356 b356 "java/util/AbstractList" "modCount" "I" (.int (0 : Int32)) := D356 (Or.inl (wd 112 rfl)) (ty := .int) (by decide)
      have F356_elementData : Fld Z h356 b356 "java/util/ArrayList" "elementData" "[Ljava/lang/Object;" .null := D356 (Or.inl (wd 115 rfl)) (ty := (.array (.object "java/lang/Object"))) (by decide)
      have F356_size : Fld Z h356 b356 "java/util/ArrayList" "size" "I" (.int (0 : Int32)) := D356 (Or.inl (wd 124 rfl)) (ty := .int) (by decide)
      refine go_of (B := (T356.setTop (mkF m 127 #[.val (.int cnt), .val (.int fl), .val (.long r1), .second, .val (.long r2), .second, .val (.long r3), .second, .val (.int (3 : Int32)), .val (.ref b218), .val (.ref b221), .val (.ref b224), .val (.ref b227), .val (.ref b337), .val (.ref b347), .unset, .unset, .unset, .unset, .unset, .unset] [(.ref b356)]))) (st356) ?_
      refine go_of (B := (T356.setTop (mkF m 128 #[.val (.int cnt), .val (.int fl), .val (.long r1), .second, .val (.long r2), .second, .val (.long r3), .second, .val (.int (3 : Int32)), .val (.ref b218), .val (.ref b221), .val (.ref b224), .val (.ref b227), .val (.ref b337), .val (.ref b347), .unset, .unset, .unset, .unset, .unset, .unset] [(.ref b356), (.ref b356)]))) (fun _ kk => XS.dup X356.here hx rfl (hb hby at_127) rfl rfl kk) ?_
      have cf_357 := ((cf_349.keep K355 (allS (by first | omega | exact own_ne (by omega) | exact own_le (by omega)) all0)).ext E356)
      obtain ⟨_, _, ⟨T358, L358, k358, n358⟩, -, X358, ⟨Lc358, hQ358, l358, y358, z358⟩, st358⟩ := X356.specialBack hx (y := MN10) rfl hown (mvT hZ (wd 95 rfl)) (mvT hZ (wd 96 rfl)) (mvT hZ (wd 97 rfl)) (by decide) (backOf (W := 1) (rm11 l Z a0 hw [] b356 _ _ wD h356 n0 (by omega) A356 F356_modCount F356_elementData F356_size (by first | omega | exact own_ne (by omega) | exact own_le (by omega)) cf_357 SD) hZ (wd 97 rfl) (wd 94 rfl) (by decide) (by decide)) (g := (mkF m 128 #[.val (.int cnt), .val (.int fl), .val (.long r1), .second, .val (.long r2), .second, .val (.long r3), .second, .val (.int (3 : Int32)), .val (.ref b218), .val (.ref b221), .val (.ref b224), .val (.ref b227), .val (.ref b337), .val (.ref b347), .unset, .unset, .unset, .unset, .unset, .unset] [(.ref b356), (.ref b356)])) rfl (by rw [hml]; rfl) (Steps.refl _) (a := b356) (argsL := []) (rest := [(.ref b356)]) (lenOf pd___V rfl) rfl (Nat.le_of_eq rfl) (hb hby at_128) (fun _ _ => ⟨rfl, e356, (by decide : 19 + 0 ≤ _), (by decide : 105 + 0 ≤ _)⟩)
      dsimp only [Pt.U, Pt.locs, Pt.cells, Pt.slots] at X358 l358 y358 z358 st358 hQ358
      subst l358 y358 z358
      obtain ⟨rfl, N358q, K358, A358⟩ := hQ358
      have N358 := Fr.app N355 N358q
      have sz358 := K358.1
      refine go_tr (B := (T358.setTop (mkF m 131 #[.val (.int cnt), .val (.int fl), .val (.long r1), .second, .val (.long r2), .second, .val (.long r3), .second, .val (.int (3 : Int32)), .val (.ref b218), .val (.ref b221), .val (.ref b224), .val (.ref b227), .val (.ref b337), .val (.ref b347), .unset, .unset, .unset, .unset, .unset, .unset] [(.ref b356)]))) (st358) ?_
      refine go_of (B := (T358.setTop (mkF m 137 #[.val (.int cnt), .val (.int fl), .val (.long r1), .second, .val (.long r2), .second, .val (.long r3), .second, .val (.int (3 : Int32)), .val (.ref b218), .val (.ref b221), .val (.ref b224), .val (.ref b227), .val (.ref b337), .val (.ref b347), .val (.ref b356), .unset, .unset, .unset, .unset, .unset] [(.ref b227), (.ref b356)]))) (fun _ kk => XS.astore X358.here hx rfl (hb hby at_131) rfl rfl rfl (XS.aload X358.here hx rfl (hb hby at_133) rfl rfl (XS.aload X358.here hx rfl (hb hby at_135) rfl rfl kk))) ?_
      have cf_359 := (cf_357.keep K358 (allS (by first | omega | exact own_ne (by omega) | exact own_le (by omega)) all0))
      have cf_360 := ((((((((A336.1.ext E337).ext E338).keep K346).ext E347).ext E348).keep K355).ext E356).keep K358)
      obtain ⟨cq361, kq361, q361a, q361b, q361c⟩ := isOf hZ rfl A358.1
      obtain ⟨_, _, ⟨T361, L361, k361, n361⟩, -, X361, ⟨Lc361, hQ361, l361, y361, z361⟩, st361⟩ := X358.virtualBack hx (y := MN11) (z := MN11) hown (mvT hZ (wd 116 rfl)) (mvT hZ (wd 117 rfl)) (notFace_of_selects (args := #[]) (mvT hZ (wd 119 rfl))) (mvT hZ (wd 119 rfl)) (mvT hZ (wd 118 rfl)) (by decide) (backOf (W := 0) (add0 l Z a0 hw [] b356 b227 (0 : Int32) wD kD T358.heap n0 (by omega) ⟨A358.1, A358.2.1, A358.2.2.1, A358.2.2.2⟩ (by first | omega | exact own_ne (by omega) | exact own_le (by omega)) cf_359 SD (VD.ext cf_359.2) D0 (Ins.of_exa cf_360 (wd 146 rfl))) hZ (wd 120 rfl) (wd 94 rfl) (by decide) (by decide)) q361a q361c (g := (mkF m 137 #[.val (.int cnt), .val (.int fl), .val (.long r1), .second, .val (.long r2), .second, .val (.long r3), .second, .val (.int (3 : Int32)), .val (.ref b218), .val (.ref b221), .val (.ref b224), .val (.ref b227), .val (.ref b337), .val (.ref b347), .val (.ref b356), .unset, .unset, .unset, .unset, .unset] [(.ref b227), (.ref b356)])) rfl (by rw [hml]; rfl) (Steps.refl _) (argsL := [(.ref b227)]) (rest := []) (lenOf pd__Ljava_lang_Object__Z rfl) rfl (Nat.le_of_eq rfl) (hb hby at_137) (fun _ _ => ⟨rfl, rfl, (by decide : 19 + 1 ≤ _), (by decide : 105 + 10 ≤ _)⟩)
      dsimp only [Pt.U, Pt.locs, Pt.cells, Pt.slots] at X361 l361 y361 z361 st361 hQ361
      subst l361 y361 z361
      obtain ⟨b361, k361, rfl, N361q, lo361, K361, A361, V361, O361, XE361⟩ := hQ361
      have lo361 := own_nle lo361
      have N361 := Fr.app N358 N361q
      have hi361 := own_nlt (V361.lt)
      have sz361 := K361.1
      refine go_tr (B := (T361.setTop (mkF m 140 #[.val (.int cnt), .val (.int fl), .val (.long r1), .second, .val (.long r2), .second, .val (.long r3), .second, .val (.int (3 : Int32)), .val (.ref b218), .val (.ref b221), .val (.ref b224), .val (.ref b227), .val (.ref b337), .val (.ref b347), .val (.ref b356), .unset, .unset, .unset, .unset, .unset] [(.int (1 : Int32))]))) (st361) ?_
      refine go_of (B := (T361.setTop (mkF m 151 #[.val (.int cnt), .val (.int fl), .val (.long r1), .second, .val (.long r2), .second, .val (.long r3), .second, .val (.int (3 : Int32)), .val (.ref b218), .val (.ref b221), .val (.ref b224), .val (.ref b227), .val (.ref b337), .val (.ref b347), .val (.ref b356), .unset, .unset, .unset, .unset, .unset] [(.ref b337), (.ref b356)]))) (fun _ kk => XS.pop X361.here hx rfl (hb hby at_140) rfl rfl (XS.iload X361.here hx rfl (hb hby at_141) rfl (XS.iconst X361.here hx rfl (hb hby at_143) (XS.icmpNo X361.here hx rfl (hb hby at_144) rfl (flt (by decide : ¬ ((3 : Int32) < (2 : Int32)))).1 (XS.aload X361.here hx rfl (hb hby at_147) rfl rfl (XS.aload X361.here hx rfl (hb hby at_149) rfl rfl kk)))))) ?_
      have cf_362 := ((((((A346.1.ext E347).ext E348).keep K355).ext E356).keep K358).keep K361)
      obtain ⟨cq363, kq363, q363a, q363b, q363c⟩ := isOf hZ rfl A361.1
      obtain ⟨_, _, ⟨T363, L363, k363, n363⟩, -, X363, ⟨Lc363, hQ363, l363, y363, z363⟩, st363⟩ := X361.virtualBack hx (y := MN11) (z := MN11) hown (mvT hZ (wd 116 rfl)) (mvT hZ (wd 117 rfl)) (notFace_of_selects (args := #[]) (mvT hZ (wd 119 rfl))) (mvT hZ (wd 119 rfl)) (mvT hZ (wd 118 rfl)) (by decide) (backOf (W := 0) (add1 l Z a0 hw [] b356 b337 b361 ((0 : Int32) + (1 : Int32)) k361 b227 T361.heap n0 (by omega) ⟨A361.1, A361.2.1, A361.2.2.1, A361.2.2.2⟩ (by first | omega | exact own_ne (by omega) | exact own_le (by omega)) (by first | omega | exact own_ne (by omega) | exact own_le (by omega)) V361 O361 (Ins.of_exa cf_362 (wd 146 rfl)) (by first | omega | exact own_ne (by omega) | exact own_le (by omega))) hZ (wd 120 rfl) (wd 94 rfl) (by decide) (by decide)) q363a q363c (g := (mkF m 151 #[.val (.int cnt), .val (.int fl), .val (.long r1), .second, .val (.long r2), .second, .val (.long r3), .second, .val (.int (3 : Int32)), .val (.ref b218), .val (.ref b221), .val (.ref b224), .val (.ref b227), .val (.ref b337), .val (.ref b347), .val (.ref b356), .unset, .unset, .unset, .unset, .unset] [(.ref b337), (.ref b356)])) rfl (by rw [hml]; rfl) (Steps.refl _) (argsL := [(.ref b337)]) (rest := []) (lenOf pd__Ljava_lang_Object__Z rfl) rfl (Nat.le_of_eq rfl) (hb hby at_151) (fun _ _ => ⟨rfl, rfl, (by decide : 20 + 0 ≤ _), (by decide : 115 + 0 ≤ _)⟩)
      dsimp only [Pt.U, Pt.locs, Pt.cells, Pt.slots] at X363 l363 y363 z363 st363 hQ363
      subst l363 y363 z363
      obtain ⟨rfl, N363q, K363, A363, V363⟩ := hQ363
      have N363 := Fr.app N361 N363q
      have sz363 := K363.1
      refine go_tr (B := (T363.setTop (mkF m 154 #[.val (.int cnt), .val (.int fl), .val (.long r1), .second, .val (.long r2), .second, .val (.long r3), .second, .val (.int (3 : Int32)), .val (.ref b218), .val (.ref b221), .val (.ref b224), .val (.ref b227), .val (.ref b337), .val (.ref b347), .val (.ref b356), .unset, .unset, .unset, .unset, .unset] [(.int (1 : Int32))]))) (st363) ?_
      refine go_of (B := (T363.setTop (mkF m 165 #[.val (.int cnt), .val (.int fl), .val (.long r1), .second, .val (.long r2), .second, .val (.long r3), .second, .val (.int (3 : Int32)), .val (.ref b218), .val (.ref b221), .val (.ref b224), .val (.ref b227), .val (.ref b337), .val (.ref b347), .val (.ref b356), .unset, .unset, .unset, .unset, .unset] [(.ref b347), (.ref b356)]))) (fun _ kk => XS.pop X363.here hx rfl (hb hby at_154) rfl rfl (XS.iload X363.here hx rfl (hb hby at_155) rfl (XS.iconst X363.here hx rfl (hb hby at_157) (XS.icmpNo X363.here hx rfl (hb hby at_158) rfl (flt (by decide : ¬ ((3 : Int32) < (3 : Int32)))).1 (XS.aload X363.here hx rfl (hb hby at_161) rfl rfl (XS.aload X363.here hx rfl (hb hby at_163) rfl rfl kk)))))) ?_
      have cf_364 := ((((A355.1.ext E356).keep K358).keep K361).keep K363)
      obtain ⟨cq365, kq365, q365a, q365b, q365c⟩ := isOf hZ rfl A363.1
      obtain ⟨_, _, ⟨T365, L365, k365, n365⟩, -, X365, ⟨Lc365, hQ365, l365, y365, z365⟩, st365⟩ := X363.virtualBack hx (y := MN11) (z := MN11) hown (mvT hZ (wd 116 rfl)) (mvT hZ (wd 117 rfl)) (notFace_of_selects (args := #[]) (mvT hZ (wd 119 rfl))) (mvT hZ (wd 119 rfl)) (mvT hZ (wd 118 rfl)) (by decide) (backOf (W := 0) (add2 l Z a0 hw [] b356 b347 b361 (((0 : Int32) + (1 : Int32)) + (1 : Int32)) k361 b227 b337 T363.heap n0 (by omega) ⟨A363.1, A363.2.1, A363.2.2.1, A363.2.2.2⟩ (by first | omega | exact own_ne (by omega) | exact own_le (by omega)) (by first | omega | exact own_ne (by omega) | exact own_le (by omega)) V363 O361 (Ins.of_exa cf_364 (wd 146 rfl)) (by first | omega | exact own_ne (by omega) | exact own_le (by omega))) hZ (wd 120 rfl) (wd 94 rfl) (by decide) (by decide)) q365a q365c (g := (mkF m 165 #[.val (.int cnt), .val (.int fl), .val (.long r1), .second, .val (.long r2), .second, .val (.long r3), .second, .val (.int (3 : Int32)), .val (.ref b218), .val (.ref b221), .val (.ref b224), .val (.ref b227), .val (.ref b337), .val (.ref b347), .val (.ref b356), .unset, .unset, .unset, .unset, .unset] [(.ref b347), (.ref b356)])) rfl (by rw [hml]; rfl) (Steps.refl _) (argsL := [(.ref b347)]) (rest := []) (lenOf pd__Ljava_lang_Object__Z rfl) rfl (Nat.le_of_eq rfl) (hb hby at_165) (fun _ _ => ⟨rfl, rfl, (by decide : 20 + 0 ≤ _), (by decide : 115 + 0 ≤ _)⟩)
      dsimp only [Pt.U, Pt.locs, Pt.cells, Pt.slots] at X365 l365 y365 z365 st365 hQ365
      subst l365 y365 z365
      obtain ⟨rfl, N365q, K365, A365, V365⟩ := hQ365
      have N365 := Fr.app N363 N365q
      have sz365 := K365.1
      refine go_tr (B := (T365.setTop (mkF m 168 #[.val (.int cnt), .val (.int fl), .val (.long r1), .second, .val (.long r2), .second, .val (.long r3), .second, .val (.int (3 : Int32)), .val (.ref b218), .val (.ref b221), .val (.ref b224), .val (.ref b227), .val (.ref b337), .val (.ref b347), .val (.ref b356), .unset, .unset, .unset, .unset, .unset] [(.int (1 : Int32))]))) (st365) ?_
      refine go_of (B := (T365.setTop (mkF m 183 #[.val (.int cnt), .val (.int fl), .val (.long r1), .second, .val (.long r2), .second, .val (.long r3), .second, .val (.int (3 : Int32)), .val (.ref b218), .val (.ref b221), .val (.ref b224), .val (.ref b227), .val (.ref b337), .val (.ref b347), .val (.ref b356), .unset, .unset, .unset, .unset, .unset] [(.int (2 : Int32)), (.int (3 : Int32))]))) (fun _ kk => XS.pop X365.here hx rfl (hb hby at_168) rfl rfl (XS.iload X365.here hx rfl (hb hby at_169) rfl (XS.iconst X365.here hx rfl (hb hby at_171) (XS.icmpYes X365.here hx rfl (pc0 := 172) (pc' := 180) rfl (hb hby at_172) rfl (feq (by decide : ¬ ((3 : Int32) = (1 : Int32)))).2 (by decide) (by decide) (XS.iload X365.here hx rfl (hb hby at_180) rfl (XS.iconst X365.here hx rfl (hb hby at_182) kk)))))) ?_
      refine go_of (B := (T365.setTop (mkF m 205 #[.val (.int cnt), .val (.int fl), .val (.long r1), .second, .val (.long r2), .second, .val (.long r3), .second, .val (.int (3 : Int32)), .val (.ref b218), .val (.ref b221), .val (.ref b224), .val (.ref b227), .val (.ref b337), .val (.ref b347), .val (.ref b356), .val (.ref b224), .unset, .unset, .unset, .unset] []))) (fun _ kk => XS.icmpYes X365.here hx rfl (pc0 := 183) (pc' := 191) rfl (hb hby at_183) rfl (feq (by decide : ¬ ((3 : Int32) = (2 : Int32)))).2 (by decide) (by decide) (XS.aload X365.here hx rfl (hb hby at_191) rfl rfl (XS.astore X365.here hx rfl (hb hby at_193) rfl rfl rfl (XS.iload X365.here hx rfl (hb hby at_195) rfl (XS.iconst X365.here hx rfl (hb hby at_197) (XS.icmpYes X365.here hx rfl (pc0 := 198) (pc' := 205) rfl (hb hby at_198) rfl (feq (by decide : ¬ ((3 : Int32) = (1 : Int32)))).2 (by decide) (by decide) kk)))))) ?_
      refine go_of (B := (T365.setTop (mkF m 220 #[.val (.int cnt), .val (.int fl), .val (.long r1), .second, .val (.long r2), .second, .val (.long r3), .second, .val (.int (3 : Int32)), .val (.ref b218), .val (.ref b221), .val (.ref b224), .val (.ref b227), .val (.ref b337), .val (.ref b347), .val (.ref b356), .val (.ref b224), .val (.long r3), .second, .unset, .unset] []))) (fun _ kk => XS.iload X365.here hx rfl (hb hby at_205) rfl (XS.iconst X365.here hx rfl (hb hby at_207) (XS.icmpYes X365.here hx rfl (pc0 := 208) (pc' := 216) rfl (hb hby at_208) rfl (feq (by decide : ¬ ((3 : Int32) = (2 : Int32)))).2 (by decide) (by decide) (XS.lload X365.here hx rfl (hb hby at_216) rfl (XS.lstore X365.here hx rfl (hb hby at_218) rfl rfl kk))))) ?_
      obtain ⟨T366, h366, X366, e366, E366, A366, D366, -, st366⟩ := newO X365 hx hZ hown (wd 147 rfl) (wd 148 rfl) (wd 149 rfl) rfl (g := (mkF m 220 #[.val (.int cnt), .val (.int fl), .val (.long r1), .second, .val (.long r2), .second, .val (.long r3), .second, .val (.int (3 : Int32)), .val (.ref b218), .val (.ref b221), .val (.ref b224), .val (.ref b227), .val (.ref b337), .val (.ref b347), .val (.ref b356), .val (.ref b224), .val (.long r3), .second, .unset, .unset] [])) rfl (hb hby at_220) (by decide) (by decide)
      obtain ⟨b366, g366⟩ : ∃ z, z = T365.heap.size := ⟨_, rfl⟩
      rw [← g366] at A366 D366 st366
      have hi366 := own_nlt A366.lt
      have sz366 := E366.1
      have F366_descriptors : Fld Z h366 b366 "com/example/wombat/wombat/rules/Limit" "descriptors" "Ljava/util/List;" .null := D366 (Or.inr (wd 261 rfl)) (ty := (.object "java/util/List")) (by decide)
      refine go_of (B := (T366.setTop (mkF m 223 #[.val (.int cnt), .val (.int fl), .val (.long r1), .second, .val (.long r2), .second, .val (.long r3), .second, .val (.int (3 : Int32)), .val (.ref b218), .val (.ref b221), .val (.ref b224), .val (.ref b227), .val (.ref b337), .val (.ref b347), .val (.ref b356), .val (.ref b224), .val (.long r3), .second, .unset, .unset] [(.ref b366)]))) (st366) ?_
      refine go_of (B := (T366.setTop (mkF m 226 #[.val (.int cnt), .val (.int fl), .val (.long r1), .second, .val (.long r2), .second, .val (.long r3), .second, .val (.int (3 : Int32)), .val (.ref b218), .val (.ref b221), .val (.ref b224), .val (.ref b227), .val (.ref b337), .val (.ref b347), .val (.ref b356), .val (.ref b224), .val (.long r3), .second, .unset, .unset] [(.ref b356), (.ref b366), (.ref b366)]))) (fun _ kk => XS.dup X366.here hx rfl (hb hby at_223) rfl rfl (XS.aload X366.here hx rfl (hb hby at_224) rfl rfl kk)) ?_
      have cf_367 := ((((cf_360.keep K361).keep K363).keep K365).ext E366)
      have cf_368 := (((cf_362.keep K363).keep K365).ext E366)
      have cf_369 := ((cf_364.keep K365).ext E366)
      have cf_370 := ((((cf_359.keep K361 (allS (by first | omega | exact own_ne (by omega) | exact own_le (by omega)) all0)).keep K363 (allS (by first | omega | exact own_ne (by omega) | exact own_le (by omega)) (allS (by first | omega | exact own_ne (by omega) | exact own_le (by omega)) all0))).keep K365 (allS (by first | omega | exact own_ne (by omega) | exact own_le (by omega)) (allS (by first | omega | exact own_ne (by omega) | exact own_le (by omega)) all0))).ext E366)
      have cf_371 := (A365.1.ext E366)
      have cf_372 := (A365.2.1.ext E366)
      have cf_373 := (A365.2.2.1.ext E366)
      have cf_374 := (A365.2.2.2.ext E366)
      have cf_375 := (V365.ext E366)
      have cf_376 := (((XE361.keep K363).keep K365).ext E366)
      have cf_377 := ((((((A355.2.ext E356).keep K358 (ninS (by first | omega | exact own_ne (by omega) | exact own_le (by omega)) nin0)).keep K361 (ninS (by first | omega | exact own_ne (by omega) | exact own_le (by omega)) nin0)).keep K363 (ninS (by first | omega | exact own_ne (by omega) | exact own_le (by omega)) (ninS (by first | omega | exact own_ne (by omega) | exact own_le (by omega)) nin0))).keep K365 (ninS (by first | omega | exact own_ne (by omega) | exact own_le (by omega)) (ninS (by first | omega | exact own_ne (by omega) | exact own_le (by omega)) nin0))).ext E366)
      obtain ⟨_, _, ⟨T378, L378, k378, n378⟩, -, X378, ⟨Lc378, hQ378, l378, y378, z378⟩, st378⟩ := X366.specialBack hx (y := MN3) rfl hown (mvT hZ (wd 150 rfl)) (mvT hZ (wd 151 rfl)) (mvT hZ (wd 152 rfl)) (by decide) (backOf (W := 1) (lim_3 l Z a0 hw [] b366 b356 _ b361 ((((0 : Int32) + (1 : Int32)) + (1 : Int32)) + (1 : Int32)) k361 b227 b337 b347 mr b224 h366 n0 (by omega) ⟨cf_371, cf_372, cf_373, cf_374⟩ M cf_375 (Ins.of_exa cf_367 (wd 146 rfl)) (Ins.of_exa cf_368 (wd 146 rfl)) (Ins.of_exa cf_369 (wd 146 rfl)) cf_376 A366 F366_descriptors (by first | omega | exact own_ne (by omega) | exact own_le (by omega)) cf_369 cf_377) hZ (wd 152 rfl) (wd 149 rfl) (by decide) (by decide)) (g := (mkF m 226 #[.val (.int cnt), .val (.int fl), .val (.long r1), .second, .val (.long r2), .second, .val (.long r3), .second, .val (.int (3 : Int32)), .val (.ref b218), .val (.ref b221), .val (.ref b224), .val (.ref b227), .val (.ref b337), .val (.ref b347), .val (.ref b356), .val (.ref b224), .val (.long r3), .second, .unset, .unset] [(.ref b356), (.ref b366), (.ref b366)])) rfl (by rw [hml]; rfl) (Steps.refl _) (a := b366) (argsL := [(.ref b356)]) (rest := [(.ref b366)]) (lenOf pd__Ljava_util_List__V rfl) rfl (Nat.le_of_eq rfl) (hb hby at_226) (fun _ _ => ⟨rfl, e366, (by decide : 21 + 3 ≤ _), (by decide : 116 + 8 ≤ _)⟩)
      dsimp only [Pt.U, Pt.locs, Pt.cells, Pt.slots] at X378 l378 y378 z378 st378 hQ378
      subst l378 y378 z378
      obtain ⟨t378, d378, k378, rfl, N378q, lo378, K378, E378, F378, A378, -⟩ := hQ378
      have lo378 := own_nle lo378
      have N378 := Fr.app N365 N378q
      have sz378 := K378.1
      refine go_tr (B := (T378.setTop (mkF m 229 #[.val (.int cnt), .val (.int fl), .val (.long r1), .second, .val (.long r2), .second, .val (.long r3), .second, .val (.int (3 : Int32)), .val (.ref b218), .val (.ref b221), .val (.ref b224), .val (.ref b227), .val (.ref b337), .val (.ref b347), .val (.ref b356), .val (.ref b224), .val (.long r3), .second, .unset, .unset] [(.ref b366)]))) (st378) ?_
      refine go_of (B := (T378.setTop (mkF m 233 #[.val (.int cnt), .val (.int fl), .val (.long r1), .second, .val (.long r2), .second, .val (.long r3), .second, .val (.int (3 : Int32)), .val (.ref b218), .val (.ref b221), .val (.ref b224), .val (.ref b227), .val (.ref b337), .val (.ref b347), .val (.ref b356), .val (.ref b224), .val (.long r3), .second, .val (.ref b366), .unset] [(.ref b366)]))) (fun _ kk => XS.astore X378.here hx rfl (hb hby at_229) rfl rfl rfl (XS.aload X378.here hx rfl (hb hby at_231) rfl rfl kk)) ?_
      have cf_379 := (cf_369.keep K378)
      have cf_380 := (cf_377.keep K378 (ninS (by first | omega | exact own_ne (by omega) | exact own_le (by omega)) nin0))
      obtain ⟨cq381, kq381, q381a, q381b, q381c⟩ := isOf hZ rfl E378
      obtain ⟨_, _, ⟨T381, L381, k381, n381⟩, -, X381, ⟨Lc381, hQ381, l381, y381, z381⟩, st381⟩ := X378.virtualBack hx (y := MN4) (z := MN4) hown (mvT hZ (wd 262 rfl)) (mvT hZ (wd 263 rfl)) (notFace_of_selects (args := #[]) (mvT hZ (wd 265 rfl))) (mvT hZ (wd 265 rfl)) (mvT hZ (wd 264 rfl)) (by decide) (backOf (W := 0) (lr_3 l Z a0 hw [] b366 t378 b227 b337 b347 d378 k378 b224 T378.heap n0 (by omega) F378 A378 cf_379 cf_380) hZ (wd 266 rfl) (wd 149 rfl) (by decide) (by decide)) q381a q381c (g := (mkF m 233 #[.val (.int cnt), .val (.int fl), .val (.long r1), .second, .val (.long r2), .second, .val (.long r3), .second, .val (.int (3 : Int32)), .val (.ref b218), .val (.ref b221), .val (.ref b224), .val (.ref b227), .val (.ref b337), .val (.ref b347), .val (.ref b356), .val (.ref b224), .val (.long r3), .second, .val (.ref b366), .unset] [(.ref b366)])) rfl (by rw [hml]; rfl) (Steps.refl _) (argsL := []) (rest := []) (lenOf pd___Lcom_example_wombat_wombat_rules_RateLimit_ rfl) rfl (Nat.le_of_eq rfl) (hb hby at_233) (fun _ _ => ⟨rfl, rfl, (by decide : 24 + 0 ≤ _), (by decide : 124 + 0 ≤ _)⟩)
      dsimp only [Pt.U, Pt.locs, Pt.cells, Pt.slots] at X381 l381 y381 z381 st381 hQ381
      subst l381 y381 z381
      obtain ⟨rfl, N381q, e381⟩ := hQ381
      have N381 := Fr.app N378 N381q
      refine go_tr (B := (T381.setTop (mkF m 236 #[.val (.int cnt), .val (.int fl), .val (.long r1), .second, .val (.long r2), .second, .val (.long r3), .second, .val (.int (3 : Int32)), .val (.ref b218), .val (.ref b221), .val (.ref b224), .val (.ref b227), .val (.ref b337), .val (.ref b347), .val (.ref b356), .val (.ref b224), .val (.long r3), .second, .val (.ref b366), .unset] [(.ref b224)]))) (st381) ?_
      refine go_of (B := (T381.setTop (mkF m 247 #[.val (.int cnt), .val (.int fl), .val (.long r1), .second, .val (.long r2), .second, .val (.long r3), .second, .val (.int (3 : Int32)), .val (.ref b218), .val (.ref b221), .val (.ref b224), .val (.ref b227), .val (.ref b337), .val (.ref b347), .val (.ref b356), .val (.ref b224), .val (.long r3), .second, .val (.ref b366), .val (.ref b224)] [(.ref b224)]))) (fun _ kk => XS.astore X381.here hx rfl (hb hby at_236) rfl rfl rfl (XS.aload X381.here hx rfl (hb hby at_238) rfl rfl (XS.aload X381.here hx rfl (hb hby at_240) rfl rfl (Jvm.RoadKit.acmp (g := (mkF m 242 #[.val (.int cnt), .val (.int fl), .val (.long r1), .second, .val (.long r2), .second, .val (.long r3), .second, .val (.int (3 : Int32)), .val (.ref b218), .val (.ref b221), .val (.ref b224), .val (.ref b227), .val (.ref b337), .val (.ref b347), .val (.ref b356), .val (.ref b224), .val (.long r3), .second, .val (.ref b366), .val (.ref b224)] [(.ref b224), (.ref b224)])) X381 hx rfl rfl rfl (pc0 := 242) (pc' := 245) (same := true) rfl (hb hby at_242) rfl (decide_eq_true rfl) (by decide) (by decide) (XS.aload X381.here hx rfl (hb hby at_245) rfl rfl kk))))) ?_
      have cf_382 := ((((((((((((((((A226.2.ext E227).ext E228).keep K336 (ninS (by first | omega | exact own_ne (by omega) | exact own_le (by omega)) nin0)).ext E337).ext E338).keep K346 (ninS (by first | omega | exact own_ne (by omega) | exact own_le (by omega)) nin0)).ext E347).ext E348).keep K355 (ninS (by first | omega | exact own_ne (by omega) | exact own_le (by omega)) nin0)).ext E356).keep K358 (ninS (by first | omega | exact own_ne (by omega) | exact own_le (by omega)) nin0)).keep K361 (ninS (by first | omega | exact own_ne (by omega) | exact own_le (by omega)) nin0)).keep K363 (ninS (by first | omega | exact own_ne (by omega) | exact own_le (by omega)) (ninS (by first | omega | exact own_ne (by omega) | exact own_le (by omega)) nin0))).keep K365 (ninS (by first | omega | exact own_ne (by omega) | exact own_le (by omega)) (ninS (by first | omega | exact own_ne (by omega) | exact own_le (by omega)) nin0))).ext E366).keep K378 (ninS (by first | omega | exact own_ne (by omega) | exact own_le (by omega)) nin0))
      have cf_384 := ((((((((((((((((A226.1.ext E227).ext E228).keep K336).ext E337).ext E338).keep K346).ext E347).ext E348).keep K355).ext E356).keep K358).keep K361).keep K363).keep K365).ext E366).keep K378)
      obtain ⟨cq383, kq383, q383a, q383b, q383c⟩ := isOf hZ e381 cf_384
      obtain ⟨_, _, ⟨T383, L383, k383, n383⟩, -, X383, ⟨Lc383, hQ383, l383, y383, z383⟩, st383⟩ := X381.virtualBack hx (y := MN6) (z := MN6) hown (mvT hZ (wd 267 rfl)) (mvT hZ (wd 268 rfl)) (notFace_of_selects (args := #[]) (mvT hZ (wd 270 rfl))) (mvT hZ (wd 270 rfl)) (mvT hZ (wd 269 rfl)) (by decide) (backOf (W := 0) (rpu l Z a0 hw [] b224 r3 T378.heap n0 (by omega) cf_382) hZ (wd 271 rfl) (wd 3 rfl) (by decide) (by decide)) q383a q383c (g := (mkF m 247 #[.val (.int cnt), .val (.int fl), .val (.long r1), .second, .val (.long r2), .second, .val (.long r3), .second, .val (.int (3 : Int32)), .val (.ref b218), .val (.ref b221), .val (.ref b224), .val (.ref b227), .val (.ref b337), .val (.ref b347), .val (.ref b356), .val (.ref b224), .val (.long r3), .second, .val (.ref b366), .val (.ref b224)] [(.ref b224)])) rfl (by rw [hml]; rfl) (Steps.refl _) (argsL := []) (rest := []) (lenOf pd___J rfl) rfl (Nat.le_of_eq rfl) (hb hby at_247) (fun _ _ => ⟨rfl, e381, (by decide : 24 + 0 ≤ _), (by decide : 124 + 0 ≤ _)⟩)
      dsimp only [Pt.U, Pt.locs, Pt.cells, Pt.slots] at X383 l383 y383 z383 st383 hQ383
      subst l383 y383 z383
      obtain ⟨rfl, N383q, e383⟩ := hQ383
      have N383 := Fr.app N381 N383q
      refine go_tr (B := (T383.setTop (mkF m 250 #[.val (.int cnt), .val (.int fl), .val (.long r1), .second, .val (.long r2), .second, .val (.long r3), .second, .val (.int (3 : Int32)), .val (.ref b218), .val (.ref b221), .val (.ref b224), .val (.ref b227), .val (.ref b337), .val (.ref b347), .val (.ref b356), .val (.ref b224), .val (.long r3), .second, .val (.ref b366), .val (.ref b224)] [(.long r3)]))) (st383) ?_
      refine go_of (B := (T383.setTop (mkF m 261 #[.val (.int cnt), .val (.int fl), .val (.long r1), .second, .val (.long r2), .second, .val (.long r3), .second, .val (.int (3 : Int32)), .val (.ref b218), .val (.ref b221), .val (.ref b224), .val (.ref b227), .val (.ref b337), .val (.ref b347), .val (.ref b356), .val (.ref b224), .val (.long r3), .second, .val (.ref b366), .val (.ref b224)] [(.int (1 : Int32))]))) (fun _ kk => XS.lload X383.here hx rfl (hb hby at_250) rfl (XS.lcmp X383.here hx rfl (hb hby at_252) rfl (XS.ifNo X383.here hx rfl (hb hby at_253) rfl ((if0 _ _).trans (teq ((lw_eq _ _).mpr rfl)).2) (XS.iconst X383.here hx rfl (hb hby at_256) (XS.goto X383.here hx rfl (pc0 := 257) (pc' := 261) rfl (hb hby at_257) (by decide) (by decide) kk))))) ?_
      refine go_endW X383 hS (by rw [e383]; omega) (v := some (.int (nar .boolean (1 : Int32)))) (fun h => by rw [hret] at h; cases h) hlk (by decide) (by decide) (Q := (Q_rm0 Z cnt fl r1 r2 r3 wT wA wE wM wD kD mr h0 n0)) ?_ (fun fs hr => retN X383 hx (t := .boolean) hret (by simp) (hb hby at_261) hr)
      unfold Q_rm0
      try rw [e383]
      exact ⟨rfl, N383⟩
    · refine go_of (B := (T338.setTop (mkF m 106 #[.val (.int cnt), .val (.int fl), .val (.long r1), .second, .val (.long r2), .second, .val (.long r3), .second, .val (.int (3 : Int32)), .val (.ref b218), .val (.ref b221), .val (.ref b224), .val (.ref b227), .unset, .unset, .unset, .unset, .unset, .unset, .unset, .unset] [(.ref b221), (.ref b338), (.ref b337), (.ref b337)]))) (fun _ kk => XS.ifNo X338.here hx rfl (hb hby at_97) rfl ((if0 _ _).trans (feq hcc339).1) (XS.aload X338.here hx rfl (hb hby at_100) rfl rfl (XS.goto X338.here hx rfl (pc0 := 102) (pc' := 106) rfl (hb hby at_102) (by decide) (by decide) kk))) ?_
      have cf_385 := (((cf_330.keep K336 (allS (by first | omega | exact own_ne (by omega) | exact own_le (by omega)) all0)).ext E337).ext E338)
      have cf_386 := (A337.ext E338)
      have cf_387 := (F337_key.ext E338)
      have cf_388 := (F337_value.ext E338)
      have cf_389 := (F337_rateLimit.ext E338)
      have cf_390 := (F337_descriptors.ext E338)
      obtain ⟨_, _, ⟨T391, L391, k391, n391⟩, -, X391', hS391', gr391, ⟨Lc391, hQ391, l391, y391, z391⟩, st391⟩ := X338.specialBackS hx (y := MN0) rfl hown (mvT hZ (wd 46 rfl)) (mvT hZ (wd 47 rfl)) (mvT hZ (wd 48 rfl)) (by decide) (backOfS (W := 1) (ds2r l Z a0 hw [] b337 b338 b221 wE _ _ _ _ h338 n0 (by omega) cf_385 SE EE FE cf_386 cf_387 cf_388 cf_389 cf_390 (by first | omega | exact own_ne (by omega) | exact own_le (by omega))) hZ (wd 48 rfl) (wd 37 rfl) (by decide) (by decide)) (g := (mkF m 106 #[.val (.int cnt), .val (.int fl), .val (.long r1), .second, .val (.long r2), .second, .val (.long r3), .second, .val (.int (3 : Int32)), .val (.ref b218), .val (.ref b221), .val (.ref b224), .val (.ref b227), .unset, .unset, .unset, .unset, .unset, .unset, .unset, .unset] [(.ref b221), (.ref b338), (.ref b337), (.ref b337)])) rfl (by rw [hml]; rfl) (Steps.refl _) (a := b337) (argsL := [(.ref b338), (.ref b221)]) (rest := [(.ref b337)]) (lenOf pd__Ljava_lang_String_Lcom_example_wombat_wombat_rules_RateLimit__V rfl) rfl (Nat.le_of_eq rfl) (hb hby at_106) (fun _ _ => ⟨rfl, e338, (by decide : 11 + 2 ≤ _), (by decide : 58 + 16 ≤ _)⟩)
      dsimp only [Pt.U, Pt.locs, Pt.cells, Pt.slots] at X391' hS391' gr391 l391 y391 z391 st391 hQ391
      subst l391 y391 z391
      have X391 : Stand _ _ _ _ (s.setVm T391.vm) _ _ _ _ _ T391 _ _ _ := X391'
      have hS : s.Since T391.vm T391.heap.size := foldS hS (by rw [e338]; omega) hS391' gr391
      have hZ : Z.Warmed39 (s.setVm T391.vm).vm := State.Warmed39.trans (t := s.setVm T338.vm) hZ hS391'.1
      have hown : (s.setVm T391.vm).vm.findClass "com/example/wombat/wombat/rules/LimitRateLimitPinLaw" = some m.cls := by rw [show (s.setVm T391.vm).vm = T391.vm from rfl, hS391'.1.alike.findClass]; exact hown
      obtain ⟨rfl, N391q, K391, A391⟩ := hQ391
      have N391 := Fr.app N336 N391q
      have sz391 := K391.1
      refine go_tr (B := (T391.setTop (mkF m 109 #[.val (.int cnt), .val (.int fl), .val (.long r1), .second, .val (.long r2), .second, .val (.long r3), .second, .val (.int (3 : Int32)), .val (.ref b218), .val (.ref b221), .val (.ref b224), .val (.ref b227), .unset, .unset, .unset, .unset, .unset, .unset, .unset, .unset] [(.ref b337)]))) (st391) ?_
      refine go_of (B := (T391.setTop (mkF m 111 #[.val (.int cnt), .val (.int fl), .val (.long r1), .second, .val (.long r2), .second, .val (.long r3), .second, .val (.int (3 : Int32)), .val (.ref b218), .val (.ref b221), .val (.ref b224), .val (.ref b227), .val (.ref b337), .unset, .unset, .unset, .unset, .unset, .unset, .unset] []))) (fun _ kk => XS.astore X391.here hx rfl (hb hby at_109) rfl rfl rfl kk) ?_
      obtain ⟨T392, h392, X392, e392, E392, A392, D392, -, st392⟩ := newO X391 hx hZ hown (wd 35 rfl) (wd 36 rfl) (wd 37 rfl) rfl (g := (mkF m 111 #[.val (.int cnt), .val (.int fl), .val (.long r1), .second, .val (.long r2), .second, .val (.long r3), .second, .val (.int (3 : Int32)), .val (.ref b218), .val (.ref b221), .val (.ref b224), .val (.ref b227), .val (.ref b337), .unset, .unset, .unset, .unset, .unset, .unset, .unset] [])) rfl (hb hby at_111) (by decide) (by decide)
      obtain ⟨b392, g392⟩ : ∃ z, z = T391.heap.size := ⟨_, rfl⟩
      rw [← g392] at A392 D392 st392
      have hi392 := own_nlt A392.lt
      have sz392 := E392.1
      have F392_key : Fld Z h392 b392 "com/example/wombat/wombat/rules/Descriptor" "key" "Ljava/lang/String;" .null := D392 (Or.inr (wd 83 rfl)) (ty := (.object "java/lang/String")) (by decide)
      have F392_value : Fld Z h392 b392 "com/example/wombat/wombat/rules/Descriptor" "value" "Ljava/lang/String;" .null := D392 (Or.inr (wd 85 rfl)) (ty := (.object "java/lang/String")) (by decide)
      have F392_rateLimit : Fld Z h392 b392 "com/example/wombat/wombat/rules/Descriptor" "rateLimit" "Lcom/example/wombat/wombat/rules/RateLimit;" .null := D392 (Or.inr (wd 87 rfl)) (ty := (.object "com/example/wombat/wombat/rules/RateLimit")) (by decide)
      have F392_descriptors : Fld Z h392 b392 "com/example/wombat/wombat/rules/Descriptor" "descriptors" "Ljava/util/List;" .null := D392 (Or.inr (wd 89 rfl)) (ty := (.object "java/util/List")) (by decide)
      refine go_of (B := (T392.setTop (mkF m 114 #[.val (.int cnt), .val (.int fl), .val (.long r1), .second, .val (.long r2), .second, .val (.long r3), .second, .val (.int (3 : Int32)), .val (.ref b218), .val (.ref b221), .val (.ref b224), .val (.ref b227), .val (.ref b337), .unset, .unset, .unset, .unset, .unset, .unset, .unset] [(.ref b392)]))) (st392) ?_
      refine go_of (B := (T392.setTop (mkF m 115 #[.val (.int cnt), .val (.int fl), .val (.long r1), .second, .val (.long r2), .second, .val (.long r3), .second, .val (.int (3 : Int32)), .val (.ref b218), .val (.ref b221), .val (.ref b224), .val (.ref b227), .val (.ref b337), .unset, .unset, .unset, .unset, .unset, .unset, .unset] [(.ref b392), (.ref b392)]))) (fun _ kk => XS.dup X392.here hx rfl (hb hby at_114) rfl rfl kk) ?_
      obtain ⟨b393, T393, h393, k393, X393, e393, E393, hS, hk393, hZ, hown, st393⟩ := ldcS X392 hx hZ hown (wd 91 rfl) (own_wS hw) e392 hS (by first | omega | exact own_ne (by omega) | exact own_le (by omega)) (g := (mkF m 115 #[.val (.int cnt), .val (.int fl), .val (.long r1), .second, .val (.long r2), .second, .val (.long r3), .second, .val (.int (3 : Int32)), .val (.ref b218), .val (.ref b221), .val (.ref b224), .val (.ref b227), .val (.ref b337), .unset, .unset, .unset, .unset, .unset, .unset, .unset] [(.ref b392), (.ref b392)])) rfl (hb hby at_115) (n := 4) (by decide) (by decide) (by decide) (by decide)
      have sz393 := E393.1
      refine go_of (B := (T393.setTop (mkF m 117 #[.val (.int cnt), .val (.int fl), .val (.long r1), .second, .val (.long r2), .second, .val (.long r3), .second, .val (.int (3 : Int32)), .val (.ref b218), .val (.ref b221), .val (.ref b224), .val (.ref b227), .val (.ref b337), .unset, .unset, .unset, .unset, .unset, .unset, .unset] [(.ref b393), (.ref b392), (.ref b392)]))) (st393) ?_
      refine go_of (B := (T393.setTop (mkF m 119 #[.val (.int cnt), .val (.int fl), .val (.long r1), .second, .val (.long r2), .second, .val (.long r3), .second, .val (.int (3 : Int32)), .val (.ref b218), .val (.ref b221), .val (.ref b224), .val (.ref b227), .val (.ref b337), .unset, .unset, .unset, .unset, .unset, .unset, .unset] [(.ref b224), (.ref b393), (.ref b392), (.ref b392)]))) (fun _ kk => XS.aload X393.here hx rfl (hb hby at_117) rfl rfl kk) ?_
      have cf_394 := (((cf_385.keep K391 (allS (by first | omega | exact own_ne (by omega) | exact own_le (by omega)) all0)).ext E392).ext E393)
      have cf_395 := (A392.ext E393)
      have cf_396 := (F392_key.ext E393)
      have cf_397 := (F392_value.ext E393)
      have cf_398 := (F392_rateLimit.ext E393)
      have cf_399 := (F392_descriptors.ext E393)
      obtain ⟨_, _, ⟨T400, L400, k400, n400⟩, -, X400', hS400', gr400, ⟨Lc400, hQ400, l400, y400, z400⟩, st400⟩ := X393.specialBackS hx (y := MN0) rfl hown (mvT hZ (wd 46 rfl)) (mvT hZ (wd 47 rfl)) (mvT hZ (wd 48 rfl)) (by decide) (backOfS (W := 1) (ds2r l Z a0 hw [] b392 b393 b224 wE _ _ _ _ h393 n0 (by omega) cf_394 SE EE FE cf_395 cf_396 cf_397 cf_398 cf_399 (by first | omega | exact own_ne (by omega) | exact own_le (by omega))) hZ (wd 48 rfl) (wd 37 rfl) (by decide) (by decide)) (g := (mkF m 119 #[.val (.int cnt), .val (.int fl), .val (.long r1), .second, .val (.long r2), .second, .val (.long r3), .second, .val (.int (3 : Int32)), .val (.ref b218), .val (.ref b221), .val (.ref b224), .val (.ref b227), .val (.ref b337), .unset, .unset, .unset, .unset, .unset, .unset, .unset] [(.ref b224), (.ref b393), (.ref b392), (.ref b392)])) rfl (by rw [hml]; rfl) (Steps.refl _) (a := b392) (argsL := [(.ref b393), (.ref b224)]) (rest := [(.ref b392)]) (lenOf pd__Ljava_lang_String_Lcom_example_wombat_wombat_rules_RateLimit__V rfl) rfl (Nat.le_of_eq rfl) (hb hby at_119) (fun _ _ => ⟨rfl, e393, (by decide : 16 + 2 ≤ _), (by decide : 86 + 16 ≤ _)⟩)
      dsimp only [Pt.U, Pt.locs, Pt.cells, Pt.slots] at X400' hS400' gr400 l400 y400 z400 st400 hQ400
      subst l400 y400 z400
      have X400 : Stand _ _ _ _ (s.setVm T400.vm) _ _ _ _ _ T400 _ _ _ := X400'
      have hS : s.Since T400.vm T400.heap.size := foldS hS (by rw [e393]; omega) hS400' gr400
      have hZ : Z.Warmed39 (s.setVm T400.vm).vm := State.Warmed39.trans (t := s.setVm T393.vm) hZ hS400'.1
      have hown : (s.setVm T400.vm).vm.findClass "com/example/wombat/wombat/rules/LimitRateLimitPinLaw" = some m.cls := by rw [show (s.setVm T400.vm).vm = T400.vm from rfl, hS400'.1.alike.findClass]; exact hown
      obtain ⟨rfl, N400q, K400, A400⟩ := hQ400
      have N400 := Fr.app N391 N400q
      have sz400 := K400.1
      refine go_tr (B := (T400.setTop (mkF m 122 #[.val (.int cnt), .val (.int fl), .val (.long r1), .second, .val (.long r2), .second, .val (.long r3), .second, .val (.int (3 : Int32)), .val (.ref b218), .val (.ref b221), .val (.ref b224), .val (.ref b227), .val (.ref b337), .unset, .unset, .unset, .unset, .unset, .unset, .unset] [(.ref b392)]))) (st400) ?_
      refine go_of (B := (T400.setTop (mkF m 124 #[.val (.int cnt), .val (.int fl), .val (.long r1), .second, .val (.long r2), .second, .val (.long r3), .second, .val (.int (3 : Int32)), .val (.ref b218), .val (.ref b221), .val (.ref b224), .val (.ref b227), .val (.ref b337), .val (.ref b392), .unset, .unset, .unset, .unset, .unset, .unset] []))) (fun _ kk => XS.astore X400.here hx rfl (hb hby at_122) rfl rfl rfl kk) ?_
      obtain ⟨T401, h401, X401, e401, E401, A401, D401, -, st401⟩ := newO X400 hx hZ hown (wd 92 rfl) (wd 93 rfl) (wd 94 rfl) rfl (g := (mkF m 124 #[.val (.int cnt), .val (.int fl), .val (.long r1), .second, .val (.long r2), .second, .val (.long r3), .second, .val (.int (3 : Int32)), .val (.ref b218), .val (.ref b221), .val (.ref b224), .val (.ref b227), .val (.ref b337), .val (.ref b392), .unset, .unset, .unset, .unset, .unset, .unset] [])) rfl (hb hby at_124) (by decide) (by decide)
      obtain ⟨b401, g401⟩ : ∃ z, z = T400.heap.size := ⟨_, rfl⟩
      rw [← g401] at A401 D401 st401
      have hi401 := own_nlt A401.lt
      have sz401 := E401.1
      have F401_modCount : Fld Z h401 b401 "java/util/AbstractList" "modCount" "I" (.int (0 : Int32)) := D401 (Or.inl (wd 112 rfl)) (ty := .int) (by decide)
      have F401_elementData : Fld Z h401 b401 "java/util/ArrayList" "elementData" "[Ljava/lang/Object;" .null := D401 (Or.inl (wd 115 rfl)) (ty := (.array (.object "java/lang/Object"))) (by decide)
      have F401_size : Fld Z h401 b401 "java/util/ArrayList" "size" "I" (.int (0 : Int32)) := D401 (Or.inl (wd 124 rfl)) (ty := .int) (by decide)
      refine go_of (B := (T401.setTop (mkF m 127 #[.val (.int cnt), .val (.int fl), .val (.long r1), .second, .val (.long r2), .second, .val (.long r3), .second, .val (.int (3 : Int32)), .val (.ref b218), .val (.ref b221), .val (.ref b224), .val (.ref b227), .val (.ref b337), .val (.ref b392), .unset, .unset, .unset, .unset, .unset, .unset] [(.ref b401)]))) (st401) ?_
      refine go_of (B := (T401.setTop (mkF m 128 #[.val (.int cnt), .val (.int fl), .val (.long r1), .second, .val (.long r2), .second, .val (.long r3), .second, .val (.int (3 : Int32)), .val (.ref b218), .val (.ref b221), .val (.ref b224), .val (.ref b227), .val (.ref b337), .val (.ref b392), .unset, .unset, .unset, .unset, .unset, .unset] [(.ref b401), (.ref b401)]))) (fun _ kk => XS.dup X401.here hx rfl (hb hby at_127) rfl rfl kk) ?_
      have cf_402 := ((cf_394.keep K400 (allS (by first | omega | exact own_ne (by omega) | exact own_le (by omega)) all0)).ext E401)
      obtain ⟨_, _, ⟨T403, L403, k403, n403⟩, -, X403, ⟨Lc403, hQ403, l403, y403, z403⟩, st403⟩ := X401.specialBack hx (y := MN10) rfl hown (mvT hZ (wd 95 rfl)) (mvT hZ (wd 96 rfl)) (mvT hZ (wd 97 rfl)) (by decide) (backOf (W := 1) (rm11 l Z a0 hw [] b401 _ _ wD h401 n0 (by omega) A401 F401_modCount F401_elementData F401_size (by first | omega | exact own_ne (by omega) | exact own_le (by omega)) cf_402 SD) hZ (wd 97 rfl) (wd 94 rfl) (by decide) (by decide)) (g := (mkF m 128 #[.val (.int cnt), .val (.int fl), .val (.long r1), .second, .val (.long r2), .second, .val (.long r3), .second, .val (.int (3 : Int32)), .val (.ref b218), .val (.ref b221), .val (.ref b224), .val (.ref b227), .val (.ref b337), .val (.ref b392), .unset, .unset, .unset, .unset, .unset, .unset] [(.ref b401), (.ref b401)])) rfl (by rw [hml]; rfl) (Steps.refl _) (a := b401) (argsL := []) (rest := [(.ref b401)]) (lenOf pd___V rfl) rfl (Nat.le_of_eq rfl) (hb hby at_128) (fun _ _ => ⟨rfl, e401, (by decide : 19 + 0 ≤ _), (by decide : 105 + 0 ≤ _)⟩)
      dsimp only [Pt.U, Pt.locs, Pt.cells, Pt.slots] at X403 l403 y403 z403 st403 hQ403
      subst l403 y403 z403
      obtain ⟨rfl, N403q, K403, A403⟩ := hQ403
      have N403 := Fr.app N400 N403q
      have sz403 := K403.1
      refine go_tr (B := (T403.setTop (mkF m 131 #[.val (.int cnt), .val (.int fl), .val (.long r1), .second, .val (.long r2), .second, .val (.long r3), .second, .val (.int (3 : Int32)), .val (.ref b218), .val (.ref b221), .val (.ref b224), .val (.ref b227), .val (.ref b337), .val (.ref b392), .unset, .unset, .unset, .unset, .unset, .unset] [(.ref b401)]))) (st403) ?_
      refine go_of (B := (T403.setTop (mkF m 137 #[.val (.int cnt), .val (.int fl), .val (.long r1), .second, .val (.long r2), .second, .val (.long r3), .second, .val (.int (3 : Int32)), .val (.ref b218), .val (.ref b221), .val (.ref b224), .val (.ref b227), .val (.ref b337), .val (.ref b392), .val (.ref b401), .unset, .unset, .unset, .unset, .unset] [(.ref b227), (.ref b401)]))) (fun _ kk => XS.astore X403.here hx rfl (hb hby at_131) rfl rfl rfl (XS.aload X403.here hx rfl (hb hby at_133) rfl rfl (XS.aload X403.here hx rfl (hb hby at_135) rfl rfl kk))) ?_
      have cf_404 := (cf_402.keep K403 (allS (by first | omega | exact own_ne (by omega) | exact own_le (by omega)) all0))
      have cf_405 := ((((((((A336.1.ext E337).ext E338).keep K391).ext E392).ext E393).keep K400).ext E401).keep K403)
      obtain ⟨cq406, kq406, q406a, q406b, q406c⟩ := isOf hZ rfl A403.1
      obtain ⟨_, _, ⟨T406, L406, k406, n406⟩, -, X406, ⟨Lc406, hQ406, l406, y406, z406⟩, st406⟩ := X403.virtualBack hx (y := MN11) (z := MN11) hown (mvT hZ (wd 116 rfl)) (mvT hZ (wd 117 rfl)) (notFace_of_selects (args := #[]) (mvT hZ (wd 119 rfl))) (mvT hZ (wd 119 rfl)) (mvT hZ (wd 118 rfl)) (by decide) (backOf (W := 0) (add0 l Z a0 hw [] b401 b227 (0 : Int32) wD kD T403.heap n0 (by omega) ⟨A403.1, A403.2.1, A403.2.2.1, A403.2.2.2⟩ (by first | omega | exact own_ne (by omega) | exact own_le (by omega)) cf_404 SD (VD.ext cf_404.2) D0 (Ins.of_exa cf_405 (wd 146 rfl))) hZ (wd 120 rfl) (wd 94 rfl) (by decide) (by decide)) q406a q406c (g := (mkF m 137 #[.val (.int cnt), .val (.int fl), .val (.long r1), .second, .val (.long r2), .second, .val (.long r3), .second, .val (.int (3 : Int32)), .val (.ref b218), .val (.ref b221), .val (.ref b224), .val (.ref b227), .val (.ref b337), .val (.ref b392), .val (.ref b401), .unset, .unset, .unset, .unset, .unset] [(.ref b227), (.ref b401)])) rfl (by rw [hml]; rfl) (Steps.refl _) (argsL := [(.ref b227)]) (rest := []) (lenOf pd__Ljava_lang_Object__Z rfl) rfl (Nat.le_of_eq rfl) (hb hby at_137) (fun _ _ => ⟨rfl, rfl, (by decide : 19 + 1 ≤ _), (by decide : 105 + 10 ≤ _)⟩)
      dsimp only [Pt.U, Pt.locs, Pt.cells, Pt.slots] at X406 l406 y406 z406 st406 hQ406
      subst l406 y406 z406
      obtain ⟨b406, k406, rfl, N406q, lo406, K406, A406, V406, O406, XE406⟩ := hQ406
      have lo406 := own_nle lo406
      have N406 := Fr.app N403 N406q
      have hi406 := own_nlt (V406.lt)
      have sz406 := K406.1
      refine go_tr (B := (T406.setTop (mkF m 140 #[.val (.int cnt), .val (.int fl), .val (.long r1), .second, .val (.long r2), .second, .val (.long r3), .second, .val (.int (3 : Int32)), .val (.ref b218), .val (.ref b221), .val (.ref b224), .val (.ref b227), .val (.ref b337), .val (.ref b392), .val (.ref b401), .unset, .unset, .unset, .unset, .unset] [(.int (1 : Int32))]))) (st406) ?_
      refine go_of (B := (T406.setTop (mkF m 151 #[.val (.int cnt), .val (.int fl), .val (.long r1), .second, .val (.long r2), .second, .val (.long r3), .second, .val (.int (3 : Int32)), .val (.ref b218), .val (.ref b221), .val (.ref b224), .val (.ref b227), .val (.ref b337), .val (.ref b392), .val (.ref b401), .unset, .unset, .unset, .unset, .unset] [(.ref b337), (.ref b401)]))) (fun _ kk => XS.pop X406.here hx rfl (hb hby at_140) rfl rfl (XS.iload X406.here hx rfl (hb hby at_141) rfl (XS.iconst X406.here hx rfl (hb hby at_143) (XS.icmpNo X406.here hx rfl (hb hby at_144) rfl (flt (by decide : ¬ ((3 : Int32) < (2 : Int32)))).1 (XS.aload X406.here hx rfl (hb hby at_147) rfl rfl (XS.aload X406.here hx rfl (hb hby at_149) rfl rfl kk)))))) ?_
      have cf_407 := ((((((A391.1.ext E392).ext E393).keep K400).ext E401).keep K403).keep K406)
      obtain ⟨cq408, kq408, q408a, q408b, q408c⟩ := isOf hZ rfl A406.1
      obtain ⟨_, _, ⟨T408, L408, k408, n408⟩, -, X408, ⟨Lc408, hQ408, l408, y408, z408⟩, st408⟩ := X406.virtualBack hx (y := MN11) (z := MN11) hown (mvT hZ (wd 116 rfl)) (mvT hZ (wd 117 rfl)) (notFace_of_selects (args := #[]) (mvT hZ (wd 119 rfl))) (mvT hZ (wd 119 rfl)) (mvT hZ (wd 118 rfl)) (by decide) (backOf (W := 0) (add1 l Z a0 hw [] b401 b337 b406 ((0 : Int32) + (1 : Int32)) k406 b227 T406.heap n0 (by omega) ⟨A406.1, A406.2.1, A406.2.2.1, A406.2.2.2⟩ (by first | omega | exact own_ne (by omega) | exact own_le (by omega)) (by first | omega | exact own_ne (by omega) | exact own_le (by omega)) V406 O406 (Ins.of_exa cf_407 (wd 146 rfl)) (by first | omega | exact own_ne (by omega) | exact own_le (by omega))) hZ (wd 120 rfl) (wd 94 rfl) (by decide) (by decide)) q408a q408c (g := (mkF m 151 #[.val (.int cnt), .val (.int fl), .val (.long r1), .second, .val (.long r2), .second, .val (.long r3), .second, .val (.int (3 : Int32)), .val (.ref b218), .val (.ref b221), .val (.ref b224), .val (.ref b227), .val (.ref b337), .val (.ref b392), .val (.ref b401), .unset, .unset, .unset, .unset, .unset] [(.ref b337), (.ref b401)])) rfl (by rw [hml]; rfl) (Steps.refl _) (argsL := [(.ref b337)]) (rest := []) (lenOf pd__Ljava_lang_Object__Z rfl) rfl (Nat.le_of_eq rfl) (hb hby at_151) (fun _ _ => ⟨rfl, rfl, (by decide : 20 + 0 ≤ _), (by decide : 115 + 0 ≤ _)⟩)
      dsimp only [Pt.U, Pt.locs, Pt.cells, Pt.slots] at X408 l408 y408 z408 st408 hQ408
      subst l408 y408 z408
      obtain ⟨rfl, N408q, K408, A408, V408⟩ := hQ408
      have N408 := Fr.app N406 N408q
      have sz408 := K408.1
      refine go_tr (B := (T408.setTop (mkF m 154 #[.val (.int cnt), .val (.int fl), .val (.long r1), .second, .val (.long r2), .second, .val (.long r3), .second, .val (.int (3 : Int32)), .val (.ref b218), .val (.ref b221), .val (.ref b224), .val (.ref b227), .val (.ref b337), .val (.ref b392), .val (.ref b401), .unset, .unset, .unset, .unset, .unset] [(.int (1 : Int32))]))) (st408) ?_
      refine go_of (B := (T408.setTop (mkF m 165 #[.val (.int cnt), .val (.int fl), .val (.long r1), .second, .val (.long r2), .second, .val (.long r3), .second, .val (.int (3 : Int32)), .val (.ref b218), .val (.ref b221), .val (.ref b224), .val (.ref b227), .val (.ref b337), .val (.ref b392), .val (.ref b401), .unset, .unset, .unset, .unset, .unset] [(.ref b392), (.ref b401)]))) (fun _ kk => XS.pop X408.here hx rfl (hb hby at_154) rfl rfl (XS.iload X408.here hx rfl (hb hby at_155) rfl (XS.iconst X408.here hx rfl (hb hby at_157) (XS.icmpNo X408.here hx rfl (hb hby at_158) rfl (flt (by decide : ¬ ((3 : Int32) < (3 : Int32)))).1 (XS.aload X408.here hx rfl (hb hby at_161) rfl rfl (XS.aload X408.here hx rfl (hb hby at_163) rfl rfl kk)))))) ?_
      have cf_409 := ((((A400.1.ext E401).keep K403).keep K406).keep K408)
      obtain ⟨cq410, kq410, q410a, q410b, q410c⟩ := isOf hZ rfl A408.1
      obtain ⟨_, _, ⟨T410, L410, k410, n410⟩, -, X410, ⟨Lc410, hQ410, l410, y410, z410⟩, st410⟩ := X408.virtualBack hx (y := MN11) (z := MN11) hown (mvT hZ (wd 116 rfl)) (mvT hZ (wd 117 rfl)) (notFace_of_selects (args := #[]) (mvT hZ (wd 119 rfl))) (mvT hZ (wd 119 rfl)) (mvT hZ (wd 118 rfl)) (by decide) (backOf (W := 0) (add2 l Z a0 hw [] b401 b392 b406 (((0 : Int32) + (1 : Int32)) + (1 : Int32)) k406 b227 b337 T408.heap n0 (by omega) ⟨A408.1, A408.2.1, A408.2.2.1, A408.2.2.2⟩ (by first | omega | exact own_ne (by omega) | exact own_le (by omega)) (by first | omega | exact own_ne (by omega) | exact own_le (by omega)) V408 O406 (Ins.of_exa cf_409 (wd 146 rfl)) (by first | omega | exact own_ne (by omega) | exact own_le (by omega))) hZ (wd 120 rfl) (wd 94 rfl) (by decide) (by decide)) q410a q410c (g := (mkF m 165 #[.val (.int cnt), .val (.int fl), .val (.long r1), .second, .val (.long r2), .second, .val (.long r3), .second, .val (.int (3 : Int32)), .val (.ref b218), .val (.ref b221), .val (.ref b224), .val (.ref b227), .val (.ref b337), .val (.ref b392), .val (.ref b401), .unset, .unset, .unset, .unset, .unset] [(.ref b392), (.ref b401)])) rfl (by rw [hml]; rfl) (Steps.refl _) (argsL := [(.ref b392)]) (rest := []) (lenOf pd__Ljava_lang_Object__Z rfl) rfl (Nat.le_of_eq rfl) (hb hby at_165) (fun _ _ => ⟨rfl, rfl, (by decide : 20 + 0 ≤ _), (by decide : 115 + 0 ≤ _)⟩)
      dsimp only [Pt.U, Pt.locs, Pt.cells, Pt.slots] at X410 l410 y410 z410 st410 hQ410
      subst l410 y410 z410
      obtain ⟨rfl, N410q, K410, A410, V410⟩ := hQ410
      have N410 := Fr.app N408 N410q
      have sz410 := K410.1
      refine go_tr (B := (T410.setTop (mkF m 168 #[.val (.int cnt), .val (.int fl), .val (.long r1), .second, .val (.long r2), .second, .val (.long r3), .second, .val (.int (3 : Int32)), .val (.ref b218), .val (.ref b221), .val (.ref b224), .val (.ref b227), .val (.ref b337), .val (.ref b392), .val (.ref b401), .unset, .unset, .unset, .unset, .unset] [(.int (1 : Int32))]))) (st410) ?_
      refine go_of (B := (T410.setTop (mkF m 183 #[.val (.int cnt), .val (.int fl), .val (.long r1), .second, .val (.long r2), .second, .val (.long r3), .second, .val (.int (3 : Int32)), .val (.ref b218), .val (.ref b221), .val (.ref b224), .val (.ref b227), .val (.ref b337), .val (.ref b392), .val (.ref b401), .unset, .unset, .unset, .unset, .unset] [(.int (2 : Int32)), (.int (3 : Int32))]))) (fun _ kk => XS.pop X410.here hx rfl (hb hby at_168) rfl rfl (XS.iload X410.here hx rfl (hb hby at_169) rfl (XS.iconst X410.here hx rfl (hb hby at_171) (XS.icmpYes X410.here hx rfl (pc0 := 172) (pc' := 180) rfl (hb hby at_172) rfl (feq (by decide : ¬ ((3 : Int32) = (1 : Int32)))).2 (by decide) (by decide) (XS.iload X410.here hx rfl (hb hby at_180) rfl (XS.iconst X410.here hx rfl (hb hby at_182) kk)))))) ?_
      refine go_of (B := (T410.setTop (mkF m 205 #[.val (.int cnt), .val (.int fl), .val (.long r1), .second, .val (.long r2), .second, .val (.long r3), .second, .val (.int (3 : Int32)), .val (.ref b218), .val (.ref b221), .val (.ref b224), .val (.ref b227), .val (.ref b337), .val (.ref b392), .val (.ref b401), .val (.ref b224), .unset, .unset, .unset, .unset] []))) (fun _ kk => XS.icmpYes X410.here hx rfl (pc0 := 183) (pc' := 191) rfl (hb hby at_183) rfl (feq (by decide : ¬ ((3 : Int32) = (2 : Int32)))).2 (by decide) (by decide) (XS.aload X410.here hx rfl (hb hby at_191) rfl rfl (XS.astore X410.here hx rfl (hb hby at_193) rfl rfl rfl (XS.iload X410.here hx rfl (hb hby at_195) rfl (XS.iconst X410.here hx rfl (hb hby at_197) (XS.icmpYes X410.here hx rfl (pc0 := 198) (pc' := 205) rfl (hb hby at_198) rfl (feq (by decide : ¬ ((3 : Int32) = (1 : Int32)))).2 (by decide) (by decide) kk)))))) ?_
      refine go_of (B := (T410.setTop (mkF m 220 #[.val (.int cnt), .val (.int fl), .val (.long r1), .second, .val (.long r2), .second, .val (.long r3), .second, .val (.int (3 : Int32)), .val (.ref b218), .val (.ref b221), .val (.ref b224), .val (.ref b227), .val (.ref b337), .val (.ref b392), .val (.ref b401), .val (.ref b224), .val (.long r3), .second, .unset, .unset] []))) (fun _ kk => XS.iload X410.here hx rfl (hb hby at_205) rfl (XS.iconst X410.here hx rfl (hb hby at_207) (XS.icmpYes X410.here hx rfl (pc0 := 208) (pc' := 216) rfl (hb hby at_208) rfl (feq (by decide : ¬ ((3 : Int32) = (2 : Int32)))).2 (by decide) (by decide) (XS.lload X410.here hx rfl (hb hby at_216) rfl (XS.lstore X410.here hx rfl (hb hby at_218) rfl rfl kk))))) ?_
      obtain ⟨T411, h411, X411, e411, E411, A411, D411, -, st411⟩ := newO X410 hx hZ hown (wd 147 rfl) (wd 148 rfl) (wd 149 rfl) rfl (g := (mkF m 220 #[.val (.int cnt), .val (.int fl), .val (.long r1), .second, .val (.long r2), .second, .val (.long r3), .second, .val (.int (3 : Int32)), .val (.ref b218), .val (.ref b221), .val (.ref b224), .val (.ref b227), .val (.ref b337), .val (.ref b392), .val (.ref b401), .val (.ref b224), .val (.long r3), .second, .unset, .unset] [])) rfl (hb hby at_220) (by decide) (by decide)
      obtain ⟨b411, g411⟩ : ∃ z, z = T410.heap.size := ⟨_, rfl⟩
      rw [← g411] at A411 D411 st411
      have hi411 := own_nlt A411.lt
      have sz411 := E411.1
      have F411_descriptors : Fld Z h411 b411 "com/example/wombat/wombat/rules/Limit" "descriptors" "Ljava/util/List;" .null := D411 (Or.inr (wd 261 rfl)) (ty := (.object "java/util/List")) (by decide)
      refine go_of (B := (T411.setTop (mkF m 223 #[.val (.int cnt), .val (.int fl), .val (.long r1), .second, .val (.long r2), .second, .val (.long r3), .second, .val (.int (3 : Int32)), .val (.ref b218), .val (.ref b221), .val (.ref b224), .val (.ref b227), .val (.ref b337), .val (.ref b392), .val (.ref b401), .val (.ref b224), .val (.long r3), .second, .unset, .unset] [(.ref b411)]))) (st411) ?_
      refine go_of (B := (T411.setTop (mkF m 226 #[.val (.int cnt), .val (.int fl), .val (.long r1), .second, .val (.long r2), .second, .val (.long r3), .second, .val (.int (3 : Int32)), .val (.ref b218), .val (.ref b221), .val (.ref b224), .val (.ref b227), .val (.ref b337), .val (.ref b392), .val (.ref b401), .val (.ref b224), .val (.long r3), .second, .unset, .unset] [(.ref b401), (.ref b411), (.ref b411)]))) (fun _ kk => XS.dup X411.here hx rfl (hb hby at_223) rfl rfl (XS.aload X411.here hx rfl (hb hby at_224) rfl rfl kk)) ?_
      have cf_412 := ((((cf_405.keep K406).keep K408).keep K410).ext E411)
      have cf_413 := (((cf_407.keep K408).keep K410).ext E411)
      have cf_414 := ((cf_409.keep K410).ext E411)
      have cf_415 := ((((cf_404.keep K406 (allS (by first | omega | exact own_ne (by omega) | exact own_le (by omega)) all0)).keep K408 (allS (by first | omega | exact own_ne (by omega) | exact own_le (by omega)) (allS (by first | omega | exact own_ne (by omega) | exact own_le (by omega)) all0))).keep K410 (allS (by first | omega | exact own_ne (by omega) | exact own_le (by omega)) (allS (by first | omega | exact own_ne (by omega) | exact own_le (by omega)) all0))).ext E411)
      have cf_416 := (A410.1.ext E411)
      have cf_417 := (A410.2.1.ext E411)
      have cf_418 := (A410.2.2.1.ext E411)
      have cf_419 := (A410.2.2.2.ext E411)
      have cf_420 := (V410.ext E411)
      have cf_421 := (((XE406.keep K408).keep K410).ext E411)
      have cf_422 := ((((((A400.2.ext E401).keep K403 (ninS (by first | omega | exact own_ne (by omega) | exact own_le (by omega)) nin0)).keep K406 (ninS (by first | omega | exact own_ne (by omega) | exact own_le (by omega)) nin0)).keep K408 (ninS (by first | omega | exact own_ne (by omega) | exact own_le (by omega)) (ninS (by first | omega | exact own_ne (by omega) | exact own_le (by omega)) nin0))).keep K410 (ninS (by first | omega | exact own_ne (by omega) | exact own_le (by omega)) (ninS (by first | omega | exact own_ne (by omega) | exact own_le (by omega)) nin0))).ext E411)
      obtain ⟨_, _, ⟨T423, L423, k423, n423⟩, -, X423, ⟨Lc423, hQ423, l423, y423, z423⟩, st423⟩ := X411.specialBack hx (y := MN3) rfl hown (mvT hZ (wd 150 rfl)) (mvT hZ (wd 151 rfl)) (mvT hZ (wd 152 rfl)) (by decide) (backOf (W := 1) (lim_3 l Z a0 hw [] b411 b401 _ b406 ((((0 : Int32) + (1 : Int32)) + (1 : Int32)) + (1 : Int32)) k406 b227 b337 b392 mr b224 h411 n0 (by omega) ⟨cf_416, cf_417, cf_418, cf_419⟩ M cf_420 (Ins.of_exa cf_412 (wd 146 rfl)) (Ins.of_exa cf_413 (wd 146 rfl)) (Ins.of_exa cf_414 (wd 146 rfl)) cf_421 A411 F411_descriptors (by first | omega | exact own_ne (by omega) | exact own_le (by omega)) cf_414 cf_422) hZ (wd 152 rfl) (wd 149 rfl) (by decide) (by decide)) (g := (mkF m 226 #[.val (.int cnt), .val (.int fl), .val (.long r1), .second, .val (.long r2), .second, .val (.long r3), .second, .val (.int (3 : Int32)), .val (.ref b218), .val (.ref b221), .val (.ref b224), .val (.ref b227), .val (.ref b337), .val (.ref b392), .val (.ref b401), .val (.ref b224), .val (.long r3), .second, .unset, .unset] [(.ref b401), (.ref b411), (.ref b411)])) rfl (by rw [hml]; rfl) (Steps.refl _) (a := b411) (argsL := [(.ref b401)]) (rest := [(.ref b411)]) (lenOf pd__Ljava_util_List__V rfl) rfl (Nat.le_of_eq rfl) (hb hby at_226) (fun _ _ => ⟨rfl, e411, (by decide : 21 + 3 ≤ _), (by decide : 116 + 8 ≤ _)⟩)
      dsimp only [Pt.U, Pt.locs, Pt.cells, Pt.slots] at X423 l423 y423 z423 st423 hQ423
      subst l423 y423 z423
      obtain ⟨t423, d423, k423, rfl, N423q, lo423, K423, E423, F423, A423, -⟩ := hQ423
      have lo423 := own_nle lo423
      have N423 := Fr.app N410 N423q
      have sz423 := K423.1
      refine go_tr (B := (T423.setTop (mkF m 229 #[.val (.int cnt), .val (.int fl), .val (.long r1), .second, .val (.long r2), .second, .val (.long r3), .second, .val (.int (3 : Int32)), .val (.ref b218), .val (.ref b221), .val (.ref b224), .val (.ref b227), .val (.ref b337), .val (.ref b392), .val (.ref b401), .val (.ref b224), .val (.long r3), .second, .unset, .unset] [(.ref b411)]))) (st423) ?_
      refine go_of (B := (T423.setTop (mkF m 233 #[.val (.int cnt), .val (.int fl), .val (.long r1), .second, .val (.long r2), .second, .val (.long r3), .second, .val (.int (3 : Int32)), .val (.ref b218), .val (.ref b221), .val (.ref b224), .val (.ref b227), .val (.ref b337), .val (.ref b392), .val (.ref b401), .val (.ref b224), .val (.long r3), .second, .val (.ref b411), .unset] [(.ref b411)]))) (fun _ kk => XS.astore X423.here hx rfl (hb hby at_229) rfl rfl rfl (XS.aload X423.here hx rfl (hb hby at_231) rfl rfl kk)) ?_
      have cf_424 := (cf_414.keep K423)
      have cf_425 := (cf_422.keep K423 (ninS (by first | omega | exact own_ne (by omega) | exact own_le (by omega)) nin0))
      obtain ⟨cq426, kq426, q426a, q426b, q426c⟩ := isOf hZ rfl E423
      obtain ⟨_, _, ⟨T426, L426, k426, n426⟩, -, X426, ⟨Lc426, hQ426, l426, y426, z426⟩, st426⟩ := X423.virtualBack hx (y := MN4) (z := MN4) hown (mvT hZ (wd 262 rfl)) (mvT hZ (wd 263 rfl)) (notFace_of_selects (args := #[]) (mvT hZ (wd 265 rfl))) (mvT hZ (wd 265 rfl)) (mvT hZ (wd 264 rfl)) (by decide) (backOf (W := 0) (lr_3 l Z a0 hw [] b411 t423 b227 b337 b392 d423 k423 b224 T423.heap n0 (by omega) F423 A423 cf_424 cf_425) hZ (wd 266 rfl) (wd 149 rfl) (by decide) (by decide)) q426a q426c (g := (mkF m 233 #[.val (.int cnt), .val (.int fl), .val (.long r1), .second, .val (.long r2), .second, .val (.long r3), .second, .val (.int (3 : Int32)), .val (.ref b218), .val (.ref b221), .val (.ref b224), .val (.ref b227), .val (.ref b337), .val (.ref b392), .val (.ref b401), .val (.ref b224), .val (.long r3), .second, .val (.ref b411), .unset] [(.ref b411)])) rfl (by rw [hml]; rfl) (Steps.refl _) (argsL := []) (rest := []) (lenOf pd___Lcom_example_wombat_wombat_rules_RateLimit_ rfl) rfl (Nat.le_of_eq rfl) (hb hby at_233) (fun _ _ => ⟨rfl, rfl, (by decide : 24 + 0 ≤ _), (by decide : 124 + 0 ≤ _)⟩)
      dsimp only [Pt.U, Pt.locs, Pt.cells, Pt.slots] at X426 l426 y426 z426 st426 hQ426
      subst l426 y426 z426
      obtain ⟨rfl, N426q, e426⟩ := hQ426
      have N426 := Fr.app N423 N426q
      refine go_tr (B := (T426.setTop (mkF m 236 #[.val (.int cnt), .val (.int fl), .val (.long r1), .second, .val (.long r2), .second, .val (.long r3), .second, .val (.int (3 : Int32)), .val (.ref b218), .val (.ref b221), .val (.ref b224), .val (.ref b227), .val (.ref b337), .val (.ref b392), .val (.ref b401), .val (.ref b224), .val (.long r3), .second, .val (.ref b411), .unset] [(.ref b224)]))) (st426) ?_
      refine go_of (B := (T426.setTop (mkF m 247 #[.val (.int cnt), .val (.int fl), .val (.long r1), .second, .val (.long r2), .second, .val (.long r3), .second, .val (.int (3 : Int32)), .val (.ref b218), .val (.ref b221), .val (.ref b224), .val (.ref b227), .val (.ref b337), .val (.ref b392), .val (.ref b401), .val (.ref b224), .val (.long r3), .second, .val (.ref b411), .val (.ref b224)] [(.ref b224)]))) (fun _ kk => XS.astore X426.here hx rfl (hb hby at_236) rfl rfl rfl (XS.aload X426.here hx rfl (hb hby at_238) rfl rfl (XS.aload X426.here hx rfl (hb hby at_240) rfl rfl (Jvm.RoadKit.acmp (g := (mkF m 242 #[.val (.int cnt), .val (.int fl), .val (.long r1), .second, .val (.long r2), .second, .val (.long r3), .second, .val (.int (3 : Int32)), .val (.ref b218), .val (.ref b221), .val (.ref b224), .val (.ref b227), .val (.ref b337), .val (.ref b392), .val (.ref b401), .val (.ref b224), .val (.long r3), .second, .val (.ref b411), .val (.ref b224)] [(.ref b224), (.ref b224)])) X426 hx rfl rfl rfl (pc0 := 242) (pc' := 245) (same := true) rfl (hb hby at_242) rfl (decide_eq_true rfl) (by decide) (by decide) (XS.aload X426.here hx rfl (hb hby at_245) rfl rfl kk))))) ?_
      have cf_427 := ((((((((((((((((A226.2.ext E227).ext E228).keep K336 (ninS (by first | omega | exact own_ne (by omega) | exact own_le (by omega)) nin0)).ext E337).ext E338).keep K391 (ninS (by first | omega | exact own_ne (by omega) | exact own_le (by omega)) nin0)).ext E392).ext E393).keep K400 (ninS (by first | omega | exact own_ne (by omega) | exact own_le (by omega)) nin0)).ext E401).keep K403 (ninS (by first | omega | exact own_ne (by omega) | exact own_le (by omega)) nin0)).keep K406 (ninS (by first | omega | exact own_ne (by omega) | exact own_le (by omega)) nin0)).keep K408 (ninS (by first | omega | exact own_ne (by omega) | exact own_le (by omega)) (ninS (by first | omega | exact own_ne (by omega) | exact own_le (by omega)) nin0))).keep K410 (ninS (by first | omega | exact own_ne (by omega) | exact own_le (by omega)) (ninS (by first | omega | exact own_ne (by omega) | exact own_le (by omega)) nin0))).ext E411).keep K423 (ninS (by first | omega | exact own_ne (by omega) | exact own_le (by omega)) nin0))
      have cf_429 := ((((((((((((((((A226.1.ext E227).ext E228).keep K336).ext E337).ext E338).keep K391).ext E392).ext E393).keep K400).ext E401).keep K403).keep K406).keep K408).keep K410).ext E411).keep K423)
      obtain ⟨cq428, kq428, q428a, q428b, q428c⟩ := isOf hZ e426 cf_429
      obtain ⟨_, _, ⟨T428, L428, k428, n428⟩, -, X428, ⟨Lc428, hQ428, l428, y428, z428⟩, st428⟩ := X426.virtualBack hx (y := MN6) (z := MN6) hown (mvT hZ (wd 267 rfl)) (mvT hZ (wd 268 rfl)) (notFace_of_selects (args := #[]) (mvT hZ (wd 270 rfl))) (mvT hZ (wd 270 rfl)) (mvT hZ (wd 269 rfl)) (by decide) (backOf (W := 0) (rpu l Z a0 hw [] b224 r3 T423.heap n0 (by omega) cf_427) hZ (wd 271 rfl) (wd 3 rfl) (by decide) (by decide)) q428a q428c (g := (mkF m 247 #[.val (.int cnt), .val (.int fl), .val (.long r1), .second, .val (.long r2), .second, .val (.long r3), .second, .val (.int (3 : Int32)), .val (.ref b218), .val (.ref b221), .val (.ref b224), .val (.ref b227), .val (.ref b337), .val (.ref b392), .val (.ref b401), .val (.ref b224), .val (.long r3), .second, .val (.ref b411), .val (.ref b224)] [(.ref b224)])) rfl (by rw [hml]; rfl) (Steps.refl _) (argsL := []) (rest := []) (lenOf pd___J rfl) rfl (Nat.le_of_eq rfl) (hb hby at_247) (fun _ _ => ⟨rfl, e426, (by decide : 24 + 0 ≤ _), (by decide : 124 + 0 ≤ _)⟩)
      dsimp only [Pt.U, Pt.locs, Pt.cells, Pt.slots] at X428 l428 y428 z428 st428 hQ428
      subst l428 y428 z428
      obtain ⟨rfl, N428q, e428⟩ := hQ428
      have N428 := Fr.app N426 N428q
      refine go_tr (B := (T428.setTop (mkF m 250 #[.val (.int cnt), .val (.int fl), .val (.long r1), .second, .val (.long r2), .second, .val (.long r3), .second, .val (.int (3 : Int32)), .val (.ref b218), .val (.ref b221), .val (.ref b224), .val (.ref b227), .val (.ref b337), .val (.ref b392), .val (.ref b401), .val (.ref b224), .val (.long r3), .second, .val (.ref b411), .val (.ref b224)] [(.long r3)]))) (st428) ?_
      refine go_of (B := (T428.setTop (mkF m 261 #[.val (.int cnt), .val (.int fl), .val (.long r1), .second, .val (.long r2), .second, .val (.long r3), .second, .val (.int (3 : Int32)), .val (.ref b218), .val (.ref b221), .val (.ref b224), .val (.ref b227), .val (.ref b337), .val (.ref b392), .val (.ref b401), .val (.ref b224), .val (.long r3), .second, .val (.ref b411), .val (.ref b224)] [(.int (1 : Int32))]))) (fun _ kk => XS.lload X428.here hx rfl (hb hby at_250) rfl (XS.lcmp X428.here hx rfl (hb hby at_252) rfl (XS.ifNo X428.here hx rfl (hb hby at_253) rfl ((if0 _ _).trans (teq ((lw_eq _ _).mpr rfl)).2) (XS.iconst X428.here hx rfl (hb hby at_256) (XS.goto X428.here hx rfl (pc0 := 257) (pc' := 261) rfl (hb hby at_257) (by decide) (by decide) kk))))) ?_
      refine go_endW X428 hS (by rw [e428]; omega) (v := some (.int (nar .boolean (1 : Int32)))) (fun h => by rw [hret] at h; cases h) hlk (by decide) (by decide) (Q := (Q_rm0 Z cnt fl r1 r2 r3 wT wA wE wM wD kD mr h0 n0)) ?_ (fun fs hr => retN X428 hx (t := .boolean) hret (by simp) (hb hby at_261) hr)
      unfold Q_rm0
      try rw [e428]
      exact ⟨rfl, N428⟩
theorem pn_com_example_wombat_wombat_rules_LimitRateLimitPinLaw : plainName "com/example/wombat/wombat/rules/LimitRateLimitPinLaw" = true := by first | (simp [plainName, overriddenIn]; done) | decide +kernel
theorem ef_rm0 (m : MethodId) (cnt : Int32) (fl : Int32) (r1 : Int64) (r2 : Int64) (r3 : Int64)  : entryFrame m #[(.int cnt), (.int fl), (.long r1), (.long r2), (.long r3)] maxLocals = mkF m 0 #[.val (.int cnt), .val (.int fl), .val (.long r1), .second, .val (.long r2), .second, .val (.long r3), .second, .unset, .unset, .unset, .unset, .unset, .unset, .unset, .unset, .unset, .unset, .unset, .unset, .unset] [] := by first | (simp [entryFrame, mkF, argsToLocals, Value.category, maxLocals]; done) | rfl
theorem rm0 (l : Launch) (Z : State) (a0 : Array Value) (hw : TW a0 Z) (ws : List Cond) (cnt : Int32) (fl : Int32) (r1 : Int64) (r2 : Int64) (r3 : Int64) (wT : Addr) (wA : Addr) (wE : Addr) (wM : Addr) (wD : Addr) (kD : ClassId) (mr : Addr) (h0 : Heap) (n0 : Nat) (Z0 : n0 ≤ h0.size) (O : Old Z n0 h0) (ST : Sta Z Z.heap "com/example/wombat/wombat/rules/RateLimit" "DEFAULT_STORE_TIMEOUT" "Ljava/time/Duration;" (.ref wT)) (SA : Sta Z Z.heap "com/example/wombat/wombat/rules/OnStoreFailure" "ALLOW" "Lcom/example/wombat/wombat/rules/OnStoreFailure;" (.ref wA)) (SE : Sta Z Z.heap "java/util/ImmutableCollections" "EMPTY_LIST" "Ljava/util/ImmutableCollections$ListN;" (.ref wE)) (EE : Exa Z Z.heap wE "java/util/ImmutableCollections$ListN") (FE : Fld Z Z.heap wE "java/util/ImmutableCollections$ListN" "allowNulls" "Z" (.int 0)) (SM : Sta Z Z.heap "java/util/ImmutableCollections" "EMPTY" "Ljava/lang/Object;" (.ref wM)) (WM : wM < n0) (SD : Sta Z Z.heap "java/util/ArrayList" "DEFAULTCAPACITY_EMPTY_ELEMENTDATA" "[Ljava/lang/Object;" (.ref wD)) (VD : Arv Z Z.heap wD kD (.object "java/lang/Object") 0 [] .null) (D0 : wD < n0) (M : own_Mir Z "[Ljava/lang/Object;" mr) :
    own_MFW l Z x code maxLocals ret ws room_1 #[(.int cnt), (.int fl), (.long r1), (.long r2), (.long r3)] h0 (Q_rm0 Z cnt fl r1 r2 r3 wT wA wE wM wD kD mr h0 n0) := by
  have wd := @own_wd _ _ hw
  refine MetFree.of_bodySF (plainFor_of_name pn_com_example_wombat_wombat_rules_LimitRateLimitPinLaw) hisR ?_
  intro p e s m args below meth c s₁ Bd hml0 hP hK
  obtain ⟨rfl, hZ, hh⟩ := hP
  have hx := Bd.exec
  have hby := Bd.bytes
  have hml : c.maxLocals = 21 := hml0
  have hown : s.vm.findClass "com/example/wombat/wombat/rules/LimitRateLimitPinLaw" = some m.cls := findClass_of_methodNamed Bd.named
  have hnm := (name_of_methodNamed Bd.named Bd.method).1
  have X0 : Stand p l e room_1 (s.setVm s.vm) m #[(.int cnt), (.int fl), (.long r1), (.long r2), (.long r3)] below meth c s₁ [] 0 0 := Stand.of_body Bd
  have e0 : s₁.heap = h0 := by rw [← hh, Bd.state]; rfl
  have N0 := Fr.nil n0
  have hS : s.Since s.vm 0 := (State.WarmedH.refl s).since 0
  have WM' := own_nlt WM
  have D0' := own_nlt D0
  refine go_of (A := s₁.setTop (entryFrame m #[(.int cnt), (.int fl), (.long r1), (.long r2), (.long r3)] maxLocals)) (B := s₁.setTop (mkF m 0 #[.val (.int cnt), .val (.int fl), .val (.long r1), .second, .val (.long r2), .second, .val (.long r3), .second, .unset, .unset, .unset, .unset, .unset, .unset, .unset, .unset, .unset, .unset, .unset, .unset, .unset] [])) (fun _ kk' => castTop (ef_rm0 m cnt fl r1 r2 r3) kk') ?_
  refine go_of (B := (s₁.setTop (mkF m 7 #[.val (.int cnt), .val (.int fl), .val (.long r1), .second, .val (.long r2), .second, .val (.long r3), .second, .unset, .unset, .unset, .unset, .unset, .unset, .unset, .unset, .unset, .unset, .unset, .unset, .unset] [(.int (1 : Int32)), (.int ((cnt &&& (2147483647 : Int32)) % (3 : Int32)))]))) (fun _ kk => XS.iloadN X0.here hx rfl (hb hby at_0) rfl (X0.ldcInt hx hown (mvT hZ (wd 0 rfl)) (g := (mkF m 1 #[.val (.int cnt), .val (.int fl), .val (.long r1), .second, .val (.long r2), .second, .val (.long r3), .second, .unset, .unset, .unset, .unset, .unset, .unset, .unset, .unset, .unset, .unset, .unset, .unset, .unset] [(.int cnt)])) rfl (hb hby at_1) _ (XS.iand X0.here hx rfl (hb hby at_3) rfl (XS.iconst X0.here hx rfl (hb hby at_4) (iremM X0 hx rfl (hb hby at_5) rfl (by decide) (XS.iconst X0.here hx rfl (hb hby at_6) kk)))))) ?_
  refine go_of (B := (s₁.setTop (mkF m 10 #[.val (.int cnt), .val (.int fl), .val (.long r1), .second, .val (.long r2), .second, .val (.long r3), .second, .val (.int (((cnt &&& (2147483647 : Int32)) % (3 : Int32)) + (1 : Int32))), .unset, .unset, .unset, .unset, .unset, .unset, .unset, .unset, .unset, .unset, .unset, .unset] []))) (fun _ kk => XS.iadd X0.here hx rfl (hb hby at_7) rfl (XS.istore X0.here hx rfl (hb hby at_8) rfl rfl kk)) ?_
  rcases own_n3 cnt with hn | hn | hn
  · rw [hn]
    exact lw1 cnt fl r1 r2 r3 wT wA wE wM wD kD mr X0 hx hZ hw hby hml hown Bd.returns Bd.notSynchronized e0 N0 (by first | omega | exact own_ne (by omega) | exact own_le (by omega)) O ST SA SE EE FE SM WM SD VD D0 M
  · rw [hn]
    exact lw2 cnt fl r1 r2 r3 wT wA wE wM wD kD mr X0 hx hZ hw hby hml hown Bd.returns Bd.notSynchronized e0 N0 (by first | omega | exact own_ne (by omega) | exact own_le (by omega)) O ST SA SE EE FE SM WM SD VD D0 M
  · rw [hn]
    exact lw3 cnt fl r1 r2 r3 wT wA wE wM wD kD mr X0 hx hZ hw hby hml hown Bd.returns Bd.notSynchronized e0 N0 (by first | omega | exact own_ne (by omega) | exact own_le (by omega)) O ST SA SE EE FE SM WM SD VD D0 M
theorem comes_1 {Post : Tables → Env → Array Value → State → Outcome → State → Prop} (hpost : ∀ tb e args s v u, (limb_1_1.after args s (.returned v) u = true ∧ limb_1_2.after args s (.returned v) u = true ∧ True) → ReturnedEndW s (.returned v) u (Jvm.fieldLocs frame_1_writes args s ++ Jvm.arrayLocs frame_1_arrays args s ++ Jvm.staticLocs frame_1_statics s) 40 4288 → Post tb e args s (.returned v) u) :
    ArmFor flags0 classFile x code maxLocals ret World_1 tables_1 room_1 Calls_1 rest_1 Pre_1 Post := by
  intro l hfl _ _ p e ha hc hk s m args below hf hA hF happ hP
  obtain ⟨hcalls, hrest, hpre⟩ := hP
  obtain ⟨-, -, -, hnamed, -, -, -, hat⟩ := (Spec.applies_iff hf).mp happ
  obtain ⟨hg, hn⟩ := and_e (Cond.before_iff.mp (show (Jvm.Cond.and given_1 narrow_1).before args s = true from hpre))
  obtain ⟨g1, g2⟩ := and_e hg
  obtain ⟨g3, g4⟩ := and_e g2
  obtain ⟨g5, g6⟩ := and_e g4
  obtain ⟨g7, g8⟩ := and_e g6
  obtain ⟨g9, g10⟩ := and_e g8
  obtain ⟨w0, w1, w2, w3, w4, rfl⟩ : ∃ w0 w1 w2 w3 w4 : Value, args = #[w0, w1, w2, w3, w4] := by
    have hs : args.size = 5 := by simpa [Cond.value, given_1] using g1
    obtain ⟨L⟩ := args
    match L, hs with
    | [w0, w1, w2, w3, w4], _ => exact ⟨w0, w1, w2, w3, w4, rfl⟩
  have hw := fun d (hd : d ∈ tables_1) => atoms_spec (ws := Jvm.Cond.code x code maxLocals ret :: tables_1) hat d (List.mem_cons_of_mem _ hd)
  have wd := @own_wd _ _ hw
  have hfit : Fit s := fun {y c} hc i hi => by
    obtain ⟨ha, rfl⟩ := Array.getElem?_eq_some_iff.mp hc
    have q := List.all_eq_true.mp ((Array.all_eq_true_iff_forall_mem.mp hF) _ (Array.getElem_mem ha)) i (List.mem_range.mpr hi)
    simpa [Array.getElem?_eq_getElem hi] using q
  obtain ⟨hsets, hown0⟩ := atoms_of _ (rest_1_c_eq ▸ (show rest_1_c.before _ s = true from hrest))
  have hr0 := Cond.before_iff.mp hown0
  obtain ⟨i0, ei0⟩ := is_v g3
  obtain rfl : w0 = (.int i0) := Option.some.inj ei0
  obtain ⟨i1, ei1⟩ := is_v g5
  obtain rfl : w1 = (.int i1) := Option.some.inj ei1
  obtain ⟨i2, ei2⟩ := isL_v g7
  obtain rfl : w2 = (.long i2) := Option.some.inj ei2
  obtain ⟨i3, ei3⟩ := isL_v g9
  obtain rfl : w3 = (.long i3) := Option.some.inj ei3
  obtain ⟨i4, ei4⟩ := isL_v g10
  obtain rfl : w4 = (.long i4) := Option.some.inj ei4
  obtain ⟨na1, na2⟩ := and_e hn
  obtain ⟨wT, evT⟩ := exa_v na1
  have ST := Sta.start evT (Or.inr ⟨(wd 3 rfl), (wd 8 rfl)⟩)
  obtain ⟨wA, evA⟩ := exa_v na2
  have SA := Sta.start evA (Or.inr ⟨(wd 10 rfl), (wd 11 rfl)⟩)
  obtain ⟨wE, evE⟩ := exa_v (Cond.before_iff.mp (hsets _ (List.mem_of_getElem? (i := 2) rfl)))
  have EE := Exa.start evE (Cond.before_iff.mp (hsets _ (List.mem_of_getElem? (i := 2) rfl)))
  have SE := Sta.start evE (Or.inl (hsets _ (List.mem_of_getElem? (i := 1) rfl)))
  have FE := own_fldI evE (Cond.before_iff.mp (hsets _ (List.mem_of_getElem? (i := 6) rfl)))
  obtain ⟨wM, evM⟩ := exa_v (Cond.before_iff.mp (hsets _ (List.mem_of_getElem? (i := 18) rfl)))
  have EM := Exa.start evM (Cond.before_iff.mp (hsets _ (List.mem_of_getElem? (i := 18) rfl)))
  have SM := Sta.start evM (Or.inl (hsets _ (List.mem_of_getElem? (i := 17) rfl)))
  obtain ⟨wD, evD⟩ := arr_v (Cond.before_iff.mp (hsets _ (List.mem_of_getElem? (i := 13) rfl)))
  obtain ⟨cD, ArD⟩ := Arr.start evD (Cond.before_iff.mp (hsets _ (List.mem_of_getElem? (i := 13) rfl)))
  have szD := own_len evD ArD (Cond.before_iff.mp (hsets _ (List.mem_of_getElem? (i := 15) rfl))) (by decide)
  have SD := Sta.start evD (Or.inr ⟨(wd 94 rfl), (hsets _ (List.mem_of_getElem? (i := 9) rfl))⟩)
  have VD : Arv s s.heap wD cD.cls (.object "java/lang/Object") 0 [] .null := Arv.start hfit ArD (by rw [szD]; decide) (by rw [szD]; rfl) (by decide) rfl trivial
  obtain ⟨cM, kM, mr, mM1, mM2, mM3, -⟩ := hcalls.1
  obtain ⟨n, o, h1, h2, h3, _, L, rfl, ⟨rfl, N⟩, hq⟩ := rm0 l s _ hw tables_1 i0 i1 i2 i3 i4 wT wA wE wM wD cD.cls mr s.heap s.heap.size (Nat.le_refl _) (Old.start s) ST SA SE EE FE SM EM.lt SD VD VD.lt ⟨cM, kM, mM1, mM2, mM3⟩ p e ha hc hk s m _ below hf ((Spec.applies_iff_loose hf).mp happ).1 ⟨rfl, State.Warmed39.refl s, rfl⟩ trivial
  exact ⟨n, _, h1, h2, h3, hpost _ _ _ _ _ _ ⟨Cond.after_iff.mpr rfl, Cond.after_iff.mpr (eq_i res_at (Term.int_eval (1)) rfl), trivial⟩ ⟨hq.1, hq.2.1, hq.2.2.1, (hq.2.2.2.sift fun y hy => Or.inr (N y hy)).mono (by decide) (by decide)⟩⟩
theorem main_1_1 : Claimed_1_1 := comes_1 fun _ _ _ _ _ _ h hF => ⟨h.1, hF⟩
theorem main_1_2 : Claimed_1_2 := comes_1 fun _ _ _ _ _ _ h hF => ⟨h.2.1, hF⟩
end Jvm.Pilot.@@N@@
namespace Jvm.Pilot.@@N@@
open Jvm Jvm.ClassFile Sem Op Lib Jvm.Free Jvm.Stand Jvm.Pilot.@@N@@.Jvm.D
/-! MADE BY PROGRAM (witnessworld.py) out of the Statement's table words and the real class files: 40 classes; the members and pool entries that the words name. The judged class is class 1, her method 1. -/
namespace start1
open Jvm.ClassFile
def u (s : String) : CpInfo := .utf8 (stringToUtf16 s)
/-- a pool by its gaps: so many unusable entries, then the entry; so many at the end -/
def gap : Nat → List CpInfo → List CpInfo
  | 0, r => r
  | n + 1, r => .unusable :: gap n r
def poolList (es : List (Nat × CpInfo)) (last : Nat) : List CpInfo := es.foldr (fun e r => gap e.1 (e.2 :: r)) (gap last [])
def pool (es : List (Nat × CpInfo)) (last : Nat) : Array CpInfo := ⟨poolList es last⟩
def fileOf (pool : Array CpInfo) (this : Nat) (attrs : Array Attribute := #[]) (ms : Array MethodInfo := #[]) (fl : Nat := 33) (sup : Nat := 0) (ifs : Array Nat := #[]) (fds : Array FieldInfo := #[]) : ClassFile where
  minorVersion := 0
  majorVersion := 65
  constantPool := pool
  accessFlags := fl
  thisClass := this
  superClass := sup
  interfaces := ifs
  fields := fds
  methods := ms
  attributes := attrs
def plain (name : String) (sup : Option ClassId) : Class where
  name := name
  kind := .ordinary
  loader := none
  accessFlags := 33
  super := sup
  interfaces := #[]
  cf := none
  fields := #[]
  methods := #[]
  instanceTypes := #[]
  staticTypes := #[]
  resolved := #[]
  callSites := []
  init := .initialized
  statics := none
  mirror := none

def pool0 : Array CpInfo := pool [(5, u "<init>"), (0, u "()V"), (1, .class_ 10), (1, u "java/lang/Object"), (0, u "getClass"), (0, u "()Ljava/lang/Class;")] 111

def k0c0 : Code := { maxStack := 0, maxLocals := 1, code := object_method_1_code, exceptionTable := #[], attributes := #[] }
def k0m0 : Method := { name := "<init>", desc := "()V", sig := { parameters := [], returnType := none }, accessFlags := 1, code := some k0c0 }
def k0m1 : Method := { name := "getClass", desc := "()Ljava/lang/Class;", sig := { parameters := [], returnType := some (.object "java/lang/Class") }, accessFlags := 273, code := none }
/-- java/lang/Object -/
def k0 : Class := { plain "java/lang/Object" none with
  accessFlags := 33
  interfaces := #[]
  cf := some (fileOf pool0 8 #[] #[{ accessFlags := 1, nameIndex := 5, descriptorIndex := 6, attributes := #[] }, { accessFlags := 273, nameIndex := 11, descriptorIndex := 12, attributes := #[] }] 33 0 #[] #[])
  fields := #[]
  methods := #[k0m0, k0m1]
  instanceTypes := #[]
  staticTypes := #[]
  resolved := Array.replicate 124 none
  statics := none }

def pool1 : Array CpInfo := pool [(2, .class_ 4), (0, .nameAndType 5 6), (0, u "java/lang/Object"), (0, u "<init>"), (0, u "()V"), (0, .integer 2147483647), (0, .class_ 9), (0, u "com/example/wombat/wombat/rules/RateLimit"), (0, .methodref 8 11), (0, .nameAndType 5 12), (0, u "(Lcom/example/wombat/wombat/rules/Algorithm;Lcom/example/wombat/wombat/rules/Unit;JJ)V"), (0, .class_ 14), (0, u "com/example/wombat/wombat/rules/Descriptor"), (0, .string 16), (0, u "a"), (0, .methodref 13 18), (0, .nameAndType 5 19), (0, u "(Ljava/lang/String;Lcom/example/wombat/wombat/rules/RateLimit;)V"), (0, .string 21), (0, u "b"), (0, .string 23), (0, u "c"), (0, .class_ 25), (0, u "java/util/ArrayList"), (0, .methodref 24 3), (0, .methodref 24 28), (0, .nameAndType 29 30), (0, u "add"), (0, u "(Ljava/lang/Object;)Z"), (0, .class_ 32), (0, u "com/example/wombat/wombat/rules/Limit"), (0, .methodref 31 34), (0, .nameAndType 5 35), (0, u "(Ljava/util/List;)V"), (0, .methodref 31 37), (0, .nameAndType 38 39), (0, u "rateLimit"), (0, u "()Lcom/example/wombat/wombat/rules/RateLimit;"), (0, .methodref 8 41), (0, .nameAndType 42 43), (0, u "requestsPerUnit"), (0, u "()J"), (0, .class_ 45), (0, u "com/example/wombat/wombat/rules/LimitRateLimitPinLaw"), (2, u "law"), (0, u "(IIJJJ)Z")] 5

def k1m0 : Method := { name := "<init>", desc := "()V", sig := { parameters := [], returnType := none }, accessFlags := 1, code := none }
def k1c1 : Code := { maxStack := 8, maxLocals := 21, code := code, exceptionTable := #[], attributes := #[] }
def k1m1 : Method := { name := "law", desc := "(IIJJJ)Z", sig := { parameters := [.int, .int, .long, .long, .long], returnType := some .boolean }, accessFlags := 9, code := some k1c1 }
/-- com/example/wombat/wombat/rules/LimitRateLimitPinLaw -/
def k1 : Class := { plain "com/example/wombat/wombat/rules/LimitRateLimitPinLaw" (some 0) with
  accessFlags := 49
  interfaces := #[]
  cf := some (fileOf pool1 44 #[] #[{ accessFlags := 1, nameIndex := 5, descriptorIndex := 6, attributes := #[] }, { accessFlags := 9, nameIndex := 48, descriptorIndex := 49, attributes := #[] }] 49 2 #[] #[])
  fields := #[]
  methods := #[k1m0, k1m1]
  instanceTypes := #[]
  staticTypes := #[]
  resolved := Array.replicate 55 none
  statics := none }

def pool2 : Array CpInfo := pool [(1, .methodref 2 3), (0, .class_ 4), (0, .nameAndType 5 6), (0, u "java/lang/Object"), (0, u "<init>"), (0, u "()V"), (0, .class_ 8), (0, u "java/lang/Record")] 13

def k2c0 : Code := { maxStack := 1, maxLocals := 1, code := jdk_30_method_1_code, exceptionTable := #[], attributes := #[] }
def k2m0 : Method := { name := "<init>", desc := "()V", sig := { parameters := [], returnType := none }, accessFlags := 4, code := some k2c0 }
/-- java/lang/Record -/
def k2 : Class := { plain "java/lang/Record" (some 0) with
  accessFlags := 1057
  interfaces := #[]
  cf := some (fileOf pool2 7 #[] #[{ accessFlags := 4, nameIndex := 5, descriptorIndex := 6, attributes := #[] }] 1057 2 #[] #[])
  fields := #[]
  methods := #[k2m0]
  instanceTypes := #[]
  staticTypes := #[]
  resolved := Array.replicate 22 none
  statics := none }

def pool3 : Array CpInfo := pool [(1, .methodref 2 3), (0, .class_ 4), (0, .nameAndType 5 6), (0, u "java/lang/Record"), (0, u "<init>"), (0, u "()V"), (0, .fieldref 8 9), (0, .class_ 10), (0, .nameAndType 11 12), (0, u "com/example/wombat/wombat/rules/RateLimit"), (0, u "algorithm"), (0, u "Lcom/example/wombat/wombat/rules/Algorithm;"), (0, .fieldref 8 14), (0, .nameAndType 15 16), (0, u "unit"), (0, u "Lcom/example/wombat/wombat/rules/Unit;"), (0, .fieldref 8 18), (0, .nameAndType 19 20), (0, u "requestsPerUnit"), (0, u "J"), (0, .fieldref 8 22), (0, .nameAndType 23 20), (0, u "bucketSize"), (0, .fieldref 8 25), (0, .nameAndType 26 27), (0, u "storeTimeout"), (0, u "Ljava/time/Duration;"), (0, .fieldref 8 29), (0, .nameAndType 30 31), (0, u "onStoreFailure"), (0, u "Lcom/example/wombat/wombat/rules/OnStoreFailure;"), (0, .fieldref 8 33), (0, .nameAndType 34 27), (0, u "DEFAULT_STORE_TIMEOUT"), (0, .fieldref 36 37), (0, .class_ 38), (0, .nameAndType 39 31), (0, u "com/example/wombat/wombat/rules/OnStoreFailure"), (0, u "ALLOW"), (0, .methodref 8 41), (0, .nameAndType 5 42), (0, u "(Lcom/example/wombat/wombat/rules/Algorithm;Lcom/example/wombat/wombat/rules/Unit;JJLjava/time/Duration;Lcom/example/wombat/wombat/rules/OnStoreFailure;)V"), (20, u "(Lcom/example/wombat/wombat/rules/Algorithm;Lcom/example/wombat/wombat/rules/Unit;JJ)V"), (8, u "()J")] 28

def k3c0 : Code := { maxStack := 9, maxLocals := 7, code := prog_31_method_1_code, exceptionTable := #[], attributes := #[] }
def k3m0 : Method := { name := "<init>", desc := "(Lcom/example/wombat/wombat/rules/Algorithm;Lcom/example/wombat/wombat/rules/Unit;JJ)V", sig := { parameters := [(.object "com/example/wombat/wombat/rules/Algorithm"), (.object "com/example/wombat/wombat/rules/Unit"), .long, .long], returnType := none }, accessFlags := 1, code := some k3c0 }
def k3c1 : Code := { maxStack := 3, maxLocals := 9, code := prog_31_method_2_code, exceptionTable := #[], attributes := #[] }
def k3m1 : Method := { name := "<init>", desc := "(Lcom/example/wombat/wombat/rules/Algorithm;Lcom/example/wombat/wombat/rules/Unit;JJLjava/time/Duration;Lcom/example/wombat/wombat/rules/OnStoreFailure;)V", sig := { parameters := [(.object "com/example/wombat/wombat/rules/Algorithm"), (.object "com/example/wombat/wombat/rules/Unit"), .long, .long, (.object "java/time/Duration"), (.object "com/example/wombat/wombat/rules/OnStoreFailure")], returnType := none }, accessFlags := 1, code := some k3c1 }
def k3c2 : Code := { maxStack := 2, maxLocals := 1, code := prog_31_method_8_code, exceptionTable := #[], attributes := #[] }
def k3m2 : Method := { name := "requestsPerUnit", desc := "()J", sig := { parameters := [], returnType := some .long }, accessFlags := 1, code := some k3c2 }
/-- com/example/wombat/wombat/rules/RateLimit -/
def k3 : Class := { plain "com/example/wombat/wombat/rules/RateLimit" (some 2) with
  accessFlags := 49
  interfaces := #[]
  cf := some (fileOf pool3 8 #[] #[{ accessFlags := 1, nameIndex := 5, descriptorIndex := 63, attributes := #[] }, { accessFlags := 1, nameIndex := 5, descriptorIndex := 42, attributes := #[] }, { accessFlags := 1, nameIndex := 19, descriptorIndex := 72, attributes := #[] }] 49 2 #[] #[{ accessFlags := 18, nameIndex := 11, descriptorIndex := 12, attributes := #[] }, { accessFlags := 18, nameIndex := 15, descriptorIndex := 16, attributes := #[] }, { accessFlags := 18, nameIndex := 19, descriptorIndex := 20, attributes := #[] }, { accessFlags := 18, nameIndex := 23, descriptorIndex := 20, attributes := #[] }, { accessFlags := 18, nameIndex := 26, descriptorIndex := 27, attributes := #[] }, { accessFlags := 18, nameIndex := 30, descriptorIndex := 31, attributes := #[] }, { accessFlags := 25, nameIndex := 34, descriptorIndex := 27, attributes := #[] }])
  fields := #[{ name := "algorithm", type := (.object "com/example/wombat/wombat/rules/Algorithm"), accessFlags := 18, slot := 0, constantValue := 0 }, { name := "unit", type := (.object "com/example/wombat/wombat/rules/Unit"), accessFlags := 18, slot := 1, constantValue := 0 }, { name := "requestsPerUnit", type := .long, accessFlags := 18, slot := 2, constantValue := 0 }, { name := "bucketSize", type := .long, accessFlags := 18, slot := 3, constantValue := 0 }, { name := "storeTimeout", type := (.object "java/time/Duration"), accessFlags := 18, slot := 4, constantValue := 0 }, { name := "onStoreFailure", type := (.object "com/example/wombat/wombat/rules/OnStoreFailure"), accessFlags := 18, slot := 5, constantValue := 0 }, { name := "DEFAULT_STORE_TIMEOUT", type := (.object "java/time/Duration"), accessFlags := 25, slot := 0, constantValue := 0 }]
  methods := #[k3m0, k3m1, k3m2]
  instanceTypes := #[(.object "com/example/wombat/wombat/rules/Algorithm"), (.object "com/example/wombat/wombat/rules/Unit"), .long, .long, (.object "java/time/Duration"), (.object "com/example/wombat/wombat/rules/OnStoreFailure")]
  staticTypes := #[(.object "java/time/Duration")]
  resolved := Array.replicate 101 none
  statics := some 0 }

def pool4 : Array CpInfo := pool [(1, .class_ 2), (0, u "java/lang/constant/Constable"), (0, .class_ 4), (0, u "java/lang/Object")] 6

/-- java/lang/constant/Constable -/
def k4 : Class := { plain "java/lang/constant/Constable" (some 0) with
  accessFlags := 1537
  interfaces := #[]
  cf := some (fileOf pool4 1 #[] #[] 1537 3 #[] #[])
  fields := #[]
  methods := #[]
  instanceTypes := #[]
  staticTypes := #[]
  resolved := Array.replicate 11 none
  statics := none }

def pool5 : Array CpInfo := pool [(1, .class_ 2), (0, u "java/lang/Comparable"), (0, .class_ 4), (0, u "java/lang/Object")] 7

/-- java/lang/Comparable -/
def k5 : Class := { plain "java/lang/Comparable" (some 0) with
  accessFlags := 1537
  interfaces := #[]
  cf := some (fileOf pool5 1 #[] #[] 1537 3 #[] #[])
  fields := #[]
  methods := #[]
  instanceTypes := #[]
  staticTypes := #[]
  resolved := Array.replicate 12 none
  statics := none }

def pool6 : Array CpInfo := pool [(1, .class_ 2), (0, u "java/io/Serializable"), (0, .class_ 4), (0, u "java/lang/Object")] 2

/-- java/io/Serializable -/
def k6 : Class := { plain "java/io/Serializable" (some 0) with
  accessFlags := 1537
  interfaces := #[]
  cf := some (fileOf pool6 1 #[] #[] 1537 3 #[] #[])
  fields := #[]
  methods := #[]
  instanceTypes := #[]
  staticTypes := #[]
  resolved := Array.replicate 7 none
  statics := none }

def pool7 : Array CpInfo := pool [(2, .class_ 4), (1, u "java/lang/Enum"), (0, u "name"), (0, u "Ljava/lang/String;"), (2, u "ordinal"), (0, u "I"), (1, .class_ 14), (1, u "java/lang/Object"), (4, u "hash"), (86, .class_ 108), (1, u "java/lang/Enum$EnumDesc"), (2, .class_ 112), (0, u "java/lang/constant/Constable"), (0, .class_ 114), (0, u "java/lang/Comparable"), (0, .class_ 116), (0, u "java/io/Serializable")] 87

/-- java/lang/Enum -/
def k7 : Class := { plain "java/lang/Enum" (some 0) with
  accessFlags := 1057
  interfaces := #[4, 5, 6]
  cf := some (fileOf pool7 2 #[.nestMembers #[106]] #[] 1057 12 #[111, 113, 115] #[{ accessFlags := 18, nameIndex := 5, descriptorIndex := 6, attributes := #[] }, { accessFlags := 18, nameIndex := 9, descriptorIndex := 10, attributes := #[] }, { accessFlags := 2, nameIndex := 19, descriptorIndex := 10, attributes := #[] }])
  fields := #[{ name := "name", type := (.object "java/lang/String"), accessFlags := 18, slot := 0, constantValue := 0 }, { name := "ordinal", type := .int, accessFlags := 18, slot := 1, constantValue := 0 }, { name := "hash", type := .int, accessFlags := 2, slot := 2, constantValue := 0 }]
  methods := #[]
  instanceTypes := #[(.object "java/lang/String"), .int, .int]
  staticTypes := #[]
  resolved := Array.replicate 204 none
  statics := none }

def pool8 : Array CpInfo := pool [(1, .class_ 2), (0, u "com/example/wombat/wombat/rules/OnStoreFailure"), (2, u "ALLOW"), (0, u "Lcom/example/wombat/wombat/rules/OnStoreFailure;"), (2, u "DENY"), (2, u "$VALUES"), (0, u "[Lcom/example/wombat/wombat/rules/OnStoreFailure;"), (6, .class_ 22), (1, u "java/lang/Enum")] 24

/-- com/example/wombat/wombat/rules/OnStoreFailure -/
def k8 : Class := { plain "com/example/wombat/wombat/rules/OnStoreFailure" (some 7) with
  accessFlags := 16433
  interfaces := #[]
  cf := some (fileOf pool8 1 #[] #[] 16433 20 #[] #[{ accessFlags := 16409, nameIndex := 5, descriptorIndex := 6, attributes := #[] }, { accessFlags := 16409, nameIndex := 9, descriptorIndex := 6, attributes := #[] }, { accessFlags := 4122, nameIndex := 12, descriptorIndex := 13, attributes := #[] }])
  fields := #[{ name := "ALLOW", type := (.object "com/example/wombat/wombat/rules/OnStoreFailure"), accessFlags := 16409, slot := 0, constantValue := 0 }, { name := "DENY", type := (.object "com/example/wombat/wombat/rules/OnStoreFailure"), accessFlags := 16409, slot := 1, constantValue := 0 }, { name := "$VALUES", type := (.array (.object "com/example/wombat/wombat/rules/OnStoreFailure")), accessFlags := 4122, slot := 2, constantValue := 0 }]
  methods := #[]
  instanceTypes := #[(.object "java/lang/String"), .int, .int]
  staticTypes := #[(.object "com/example/wombat/wombat/rules/OnStoreFailure"), (.object "com/example/wombat/wombat/rules/OnStoreFailure"), (.array (.object "com/example/wombat/wombat/rules/OnStoreFailure"))]
  resolved := Array.replicate 47 none
  statics := some 1 }

def pool9 : Array CpInfo := pool [(1, .methodref 2 3), (0, .class_ 4), (0, .nameAndType 5 6), (0, u "java/lang/Record"), (0, u "<init>"), (0, u "()V"), (0, .string 8), (0, u "key"), (0, .methodref 10 11), (0, .class_ 12), (0, .nameAndType 13 14), (0, u "java/util/Objects"), (0, u "requireNonNull"), (0, u "(Ljava/lang/Object;Ljava/lang/String;)Ljava/lang/Object;"), (0, .interfaceMethodref 16 17), (0, .class_ 18), (0, .nameAndType 19 20), (0, u "java/util/List"), (0, u "copyOf"), (0, u "(Ljava/util/Collection;)Ljava/util/List;"), (0, .fieldref 22 23), (0, .class_ 24), (0, .nameAndType 8 25), (0, u "com/example/wombat/wombat/rules/Descriptor"), (0, u "Ljava/lang/String;"), (0, .fieldref 22 27), (0, .nameAndType 28 25), (0, u "value"), (0, .fieldref 22 30), (0, .nameAndType 31 32), (0, u "rateLimit"), (0, u "Lcom/example/wombat/wombat/rules/RateLimit;"), (0, .fieldref 22 34), (0, .nameAndType 35 36), (0, u "descriptors"), (0, u "Ljava/util/List;"), (0, .interfaceMethodref 16 38), (0, .nameAndType 39 40), (0, u "of"), (0, u "()Ljava/util/List;"), (0, .methodref 22 42), (0, .nameAndType 5 43), (0, u "(Ljava/lang/String;Ljava/lang/String;Lcom/example/wombat/wombat/rules/RateLimit;Ljava/util/List;)V"), (29, u "(Ljava/lang/String;Lcom/example/wombat/wombat/rules/RateLimit;)V"), (6, u "()Lcom/example/wombat/wombat/rules/RateLimit;")] 24

def k9c0 : Code := { maxStack := 2, maxLocals := 5, code := prog_27_method_1_code, exceptionTable := #[], attributes := #[] }
def k9m0 : Method := { name := "<init>", desc := "(Ljava/lang/String;Ljava/lang/String;Lcom/example/wombat/wombat/rules/RateLimit;Ljava/util/List;)V", sig := { parameters := [(.object "java/lang/String"), (.object "java/lang/String"), (.object "com/example/wombat/wombat/rules/RateLimit"), (.object "java/util/List")], returnType := none }, accessFlags := 1, code := some k9c0 }
def k9c1 : Code := { maxStack := 5, maxLocals := 3, code := prog_27_method_2_code, exceptionTable := #[], attributes := #[] }
def k9m1 : Method := { name := "<init>", desc := "(Ljava/lang/String;Lcom/example/wombat/wombat/rules/RateLimit;)V", sig := { parameters := [(.object "java/lang/String"), (.object "com/example/wombat/wombat/rules/RateLimit")], returnType := none }, accessFlags := 1, code := some k9c1 }
def k9c2 : Code := { maxStack := 1, maxLocals := 1, code := prog_27_method_9_code, exceptionTable := #[], attributes := #[] }
def k9m2 : Method := { name := "rateLimit", desc := "()Lcom/example/wombat/wombat/rules/RateLimit;", sig := { parameters := [], returnType := some (.object "com/example/wombat/wombat/rules/RateLimit") }, accessFlags := 1, code := some k9c2 }
/-- com/example/wombat/wombat/rules/Descriptor -/
def k9 : Class := { plain "com/example/wombat/wombat/rules/Descriptor" (some 2) with
  accessFlags := 49
  interfaces := #[]
  cf := some (fileOf pool9 22 #[] #[{ accessFlags := 1, nameIndex := 5, descriptorIndex := 43, attributes := #[] }, { accessFlags := 1, nameIndex := 5, descriptorIndex := 73, attributes := #[] }, { accessFlags := 1, nameIndex := 31, descriptorIndex := 80, attributes := #[] }] 49 2 #[] #[{ accessFlags := 18, nameIndex := 8, descriptorIndex := 25, attributes := #[] }, { accessFlags := 18, nameIndex := 28, descriptorIndex := 25, attributes := #[] }, { accessFlags := 18, nameIndex := 31, descriptorIndex := 32, attributes := #[] }, { accessFlags := 18, nameIndex := 35, descriptorIndex := 36, attributes := #[] }])
  fields := #[{ name := "key", type := (.object "java/lang/String"), accessFlags := 18, slot := 0, constantValue := 0 }, { name := "value", type := (.object "java/lang/String"), accessFlags := 18, slot := 1, constantValue := 0 }, { name := "rateLimit", type := (.object "com/example/wombat/wombat/rules/RateLimit"), accessFlags := 18, slot := 2, constantValue := 0 }, { name := "descriptors", type := (.object "java/util/List"), accessFlags := 18, slot := 3, constantValue := 0 }]
  methods := #[k9m0, k9m1, k9m2]
  instanceTypes := #[(.object "java/lang/String"), (.object "java/lang/String"), (.object "com/example/wombat/wombat/rules/RateLimit"), (.object "java/util/List")]
  staticTypes := #[]
  resolved := Array.replicate 105 none
  statics := none }

def pool10 : Array CpInfo := pool [(2, .class_ 4), (1, u "java/lang/CharSequence"), (42, .class_ 48), (0, u "java/lang/CharSequence$1CodePointIterator"), (10, .class_ 60), (0, u "java/lang/CharSequence$1CharIterator"), (5, .class_ 67), (0, u "java/lang/Object")] 63

/-- java/lang/CharSequence -/
def k10 : Class := { plain "java/lang/CharSequence" (some 0) with
  accessFlags := 1537
  interfaces := #[]
  cf := some (fileOf pool10 2 #[.nestMembers #[47, 59]] #[] 1537 66 #[] #[])
  fields := #[]
  methods := #[]
  instanceTypes := #[]
  staticTypes := #[]
  resolved := Array.replicate 131 none
  statics := none }

def pool11 : Array CpInfo := pool [(1, .class_ 2), (0, u "java/lang/constant/ConstantDesc"), (0, .class_ 4), (0, u "java/lang/Object")] 32

/-- java/lang/constant/ConstantDesc -/
def k11 : Class := { plain "java/lang/constant/ConstantDesc" (some 0) with
  accessFlags := 1537
  interfaces := #[]
  cf := some (fileOf pool11 1 #[] #[] 1537 3 #[] #[])
  fields := #[]
  methods := #[]
  instanceTypes := #[]
  staticTypes := #[]
  resolved := Array.replicate 37 none
  statics := none }

def pool12 : Array CpInfo := pool [(2, .class_ 4), (1, u "java/lang/Object"), (0, u "<init>"), (0, u "()V"), (3, .class_ 12), (1, u "java/lang/String"), (0, u "value"), (0, u "[B"), (2, u "coder"), (0, u "B"), (2, u "hash"), (0, u "I"), (2, u "hashIsZero"), (0, u "Z"), (13, u "COMPACT_STRINGS"), (534, .class_ 576), (0, u "java/lang/CharSequence"), (22, u "CASE_INSENSITIVE_ORDER"), (0, u "Ljava/util/Comparator;"), (500, u "serialPersistentFields"), (0, u "[Ljava/io/ObjectStreamField;"), (0, .class_ 1104), (0, u "java/lang/String$CaseInsensitiveComparator"), (1, .class_ 1107), (0, u "java/io/Serializable"), (0, .class_ 1109), (0, u "java/lang/Comparable"), (0, .class_ 1111), (0, u "java/lang/constant/Constable"), (0, .class_ 1113), (0, u "java/lang/constant/ConstantDesc"), (2, u "serialVersionUID"), (0, u "J"), (3, u "REPL"), (0, u "C"), (2, u "LATIN1"), (1, u "UTF16")] 323

def k12m0 : Method := { name := "<init>", desc := "()V", sig := { parameters := [], returnType := none }, accessFlags := 1, code := none }
/-- java/lang/String -/
def k12 : Class := { plain "java/lang/String" (some 0) with
  accessFlags := 49
  interfaces := #[6, 5, 10, 4, 11]
  cf := some (fileOf pool12 10 #[.nestMembers #[1103]] #[{ accessFlags := 1, nameIndex := 5, descriptorIndex := 6, attributes := #[] }] 49 2 #[1106, 1108, 575, 1110, 1112] #[{ accessFlags := 18, nameIndex := 13, descriptorIndex := 14, attributes := #[] }, { accessFlags := 18, nameIndex := 17, descriptorIndex := 18, attributes := #[] }, { accessFlags := 2, nameIndex := 21, descriptorIndex := 22, attributes := #[] }, { accessFlags := 2, nameIndex := 25, descriptorIndex := 26, attributes := #[] }, { accessFlags := 26, nameIndex := 1116, descriptorIndex := 1117, attributes := #[] }, { accessFlags := 24, nameIndex := 40, descriptorIndex := 26, attributes := #[] }, { accessFlags := 26, nameIndex := 1101, descriptorIndex := 1102, attributes := #[] }, { accessFlags := 26, nameIndex := 1121, descriptorIndex := 1122, attributes := #[] }, { accessFlags := 25, nameIndex := 599, descriptorIndex := 600, attributes := #[] }, { accessFlags := 24, nameIndex := 1125, descriptorIndex := 18, attributes := #[] }, { accessFlags := 24, nameIndex := 1127, descriptorIndex := 18, attributes := #[] }])
  fields := #[{ name := "value", type := (.array .byte), accessFlags := 18, slot := 0, constantValue := 0 }, { name := "coder", type := .byte, accessFlags := 18, slot := 1, constantValue := 0 }, { name := "hash", type := .int, accessFlags := 2, slot := 2, constantValue := 0 }, { name := "hashIsZero", type := .boolean, accessFlags := 2, slot := 3, constantValue := 0 }, { name := "serialVersionUID", type := .long, accessFlags := 26, slot := 0, constantValue := 0 }, { name := "COMPACT_STRINGS", type := .boolean, accessFlags := 24, slot := 1, constantValue := 0 }, { name := "serialPersistentFields", type := (.array (.object "java/io/ObjectStreamField")), accessFlags := 26, slot := 2, constantValue := 0 }, { name := "REPL", type := .char, accessFlags := 26, slot := 3, constantValue := 0 }, { name := "CASE_INSENSITIVE_ORDER", type := (.object "java/util/Comparator"), accessFlags := 25, slot := 4, constantValue := 0 }, { name := "LATIN1", type := .byte, accessFlags := 24, slot := 5, constantValue := 0 }, { name := "UTF16", type := .byte, accessFlags := 24, slot := 6, constantValue := 0 }]
  methods := #[k12m0]
  instanceTypes := #[(.array .byte), .byte, .int, .boolean]
  staticTypes := #[.long, .boolean, (.array (.object "java/io/ObjectStreamField")), .char, (.object "java/util/Comparator"), .byte, .byte]
  resolved := Array.replicate 1451 none
  statics := none }

def pool13 : Array CpInfo := pool [(8, .class_ 10), (1, u "java/lang/Iterable"), (24, .class_ 36), (0, u "java/lang/Object")] 25

/-- java/lang/Iterable -/
def k13 : Class := { plain "java/lang/Iterable" (some 0) with
  accessFlags := 1537
  interfaces := #[]
  cf := some (fileOf pool13 8 #[] #[] 1537 35 #[] #[])
  fields := #[]
  methods := #[]
  instanceTypes := #[]
  staticTypes := #[]
  resolved := Array.replicate 62 none
  statics := none }

def pool14 : Array CpInfo := pool [(10, .class_ 12), (1, u "java/util/Collection"), (0, u "toArray"), (16, u "()Z"), (29, .class_ 61), (0, u "java/lang/Object"), (0, .class_ 63), (0, u "java/lang/Iterable"), (2, u "isEmpty"), (3, u "()[Ljava/lang/Object;")] 44

def k14m0 : Method := { name := "isEmpty", desc := "()Z", sig := { parameters := [], returnType := some .boolean }, accessFlags := 1025, code := none }
def k14m1 : Method := { name := "toArray", desc := "()[Ljava/lang/Object;", sig := { parameters := [], returnType := some (.array (.object "java/lang/Object")) }, accessFlags := 1025, code := none }
/-- java/util/Collection -/
def k14 : Class := { plain "java/util/Collection" (some 0) with
  accessFlags := 1537
  interfaces := #[13]
  cf := some (fileOf pool14 10 #[] #[{ accessFlags := 1025, nameIndex := 66, descriptorIndex := 30, attributes := #[] }, { accessFlags := 1025, nameIndex := 13, descriptorIndex := 70, attributes := #[] }] 1537 60 #[62] #[])
  fields := #[]
  methods := #[k14m0, k14m1]
  instanceTypes := #[]
  staticTypes := #[]
  resolved := Array.replicate 115 none
  statics := none }

def pool15 : Array CpInfo := pool [(8, .class_ 10), (1, u "java/util/SequencedCollection"), (15, .class_ 27), (0, u "java/lang/Object"), (0, .class_ 29), (0, u "java/util/Collection")] 27

/-- java/util/SequencedCollection -/
def k15 : Class := { plain "java/util/SequencedCollection" (some 0) with
  accessFlags := 1537
  interfaces := #[14]
  cf := some (fileOf pool15 8 #[] #[] 1537 26 #[28] #[])
  fields := #[]
  methods := #[]
  instanceTypes := #[]
  staticTypes := #[]
  resolved := Array.replicate 57 none
  statics := none }

def pool16 : Array CpInfo := pool [(8, .class_ 10), (1, u "java/util/List"), (7, u "()Z"), (12, u "(Ljava/lang/Object;)V"), (16, u "<init>"), (18, u "isEmpty"), (7, u "get"), (0, u "(I)Ljava/lang/Object;"), (2, u "size"), (0, u "()I"), (7, u "of"), (1, .fieldref 91 92), (0, .class_ 93), (0, .nameAndType 94 95), (0, u "java/util/ImmutableCollections"), (0, u "EMPTY_LIST"), (0, u "Ljava/util/ImmutableCollections$ListN;"), (0, .class_ 97), (0, u "java/util/ImmutableCollections$List12"), (0, .methodref 96 99), (0, .nameAndType 48 31), (0, .methodref 96 101), (0, .nameAndType 48 102), (0, u "(Ljava/lang/Object;Ljava/lang/Object;)V"), (0, .class_ 104), (0, u "java/lang/Object"), (3, u "([Ljava/lang/Object;)Ljava/util/List;"), (0, .methodref 91 110), (0, .nameAndType 111 108), (0, u "listFromArray"), (0, .methodref 91 113), (0, .nameAndType 114 115), (0, u "listCopy"), (0, u "(Ljava/util/Collection;)Ljava/util/List;"), (3, u "()Ljava/util/List;"), (0, .class_ 121), (0, u "java/util/SequencedCollection"), (112, u "copyOf")] 16

def k16m0 : Method := { name := "size", desc := "()I", sig := { parameters := [], returnType := some .int }, accessFlags := 1025, code := none }
def k16m1 : Method := { name := "isEmpty", desc := "()Z", sig := { parameters := [], returnType := some .boolean }, accessFlags := 1025, code := none }
def k16m2 : Method := { name := "get", desc := "(I)Ljava/lang/Object;", sig := { parameters := [.int], returnType := some (.object "java/lang/Object") }, accessFlags := 1025, code := none }
def k16c3 : Code := { maxStack := 1, maxLocals := 0, code := jdk_40_method_36_code, exceptionTable := #[], attributes := #[] }
def k16m3 : Method := { name := "of", desc := "()Ljava/util/List;", sig := { parameters := [], returnType := some (.object "java/util/List") }, accessFlags := 9, code := some k16c3 }
def k16c4 : Code := { maxStack := 5, maxLocals := 2, code := jdk_40_method_47_code, exceptionTable := #[], attributes := #[] }
def k16m4 : Method := { name := "of", desc := "([Ljava/lang/Object;)Ljava/util/List;", sig := { parameters := [(.array (.object "java/lang/Object"))], returnType := some (.object "java/util/List") }, accessFlags := 137, code := some k16c4 }
def k16c5 : Code := { maxStack := 1, maxLocals := 1, code := jdk_40_method_48_code, exceptionTable := #[], attributes := #[] }
def k16m5 : Method := { name := "copyOf", desc := "(Ljava/util/Collection;)Ljava/util/List;", sig := { parameters := [(.object "java/util/Collection")], returnType := some (.object "java/util/List") }, accessFlags := 9, code := some k16c5 }
/-- java/util/List -/
def k16 : Class := { plain "java/util/List" (some 0) with
  accessFlags := 1537
  interfaces := #[15]
  cf := some (fileOf pool16 8 #[] #[{ accessFlags := 1025, nameIndex := 79, descriptorIndex := 80, attributes := #[] }, { accessFlags := 1025, nameIndex := 67, descriptorIndex := 18, attributes := #[] }, { accessFlags := 1025, nameIndex := 75, descriptorIndex := 76, attributes := #[] }, { accessFlags := 9, nameIndex := 88, descriptorIndex := 119, attributes := #[] }, { accessFlags := 137, nameIndex := 88, descriptorIndex := 108, attributes := #[] }, { accessFlags := 9, nameIndex := 234, descriptorIndex := 115, attributes := #[] }] 1537 103 #[120] #[])
  fields := #[]
  methods := #[k16m0, k16m1, k16m2, k16m3, k16m4, k16m5]
  instanceTypes := #[]
  staticTypes := #[]
  resolved := Array.replicate 251 none
  statics := none }

def pool17 : Array CpInfo := pool [(2, .class_ 4), (1, u "java/lang/Object"), (0, u "<init>"), (0, u "()V"), (3, .class_ 11), (0, u "java/util/ImmutableCollections$List12"), (0, .class_ 13), (0, u "java/util/ImmutableCollections$ListN"), (0, .fieldref 12 15), (0, .nameAndType 16 17), (0, u "allowNulls"), (0, u "Z"), (0, .class_ 19), (0, u "java/util/List"), (0, .interfaceMethodref 21 22), (0, .class_ 23), (0, .nameAndType 24 25), (0, u "java/util/Collection"), (0, u "isEmpty"), (0, u "()Z"), (2, u "of"), (1, .interfaceMethodref 21 31), (0, .nameAndType 32 33), (0, u "toArray"), (0, u "()[Ljava/lang/Object;"), (0, .interfaceMethodref 18 35), (0, .nameAndType 28 36), (0, u "([Ljava/lang/Object;)Ljava/util/List;"), (0, .methodref 38 39), (0, .class_ 40), (0, .nameAndType 41 42), (0, u "java/util/Objects"), (0, u "requireNonNull"), (0, u "(Ljava/lang/Object;)Ljava/lang/Object;"), (0, .methodref 12 44), (0, .nameAndType 5 45), (0, u "([Ljava/lang/Object;Z)V"), (1, .class_ 49), (1, u "java/util/ImmutableCollections"), (0, u "$assertionsDisabled"), (5, u "[Ljava/lang/Object;"), (5, u "EMPTY_LIST"), (0, u "Ljava/util/ImmutableCollections$ListN;"), (8, u "EMPTY_LIST_NULLS"), (22, u "SALT32L"), (0, u "J"), (2, u "REVERSE"), (6, u "archivedObjects"), (2, u "EMPTY"), (0, u "Ljava/lang/Object;"), (0, .class_ 112), (0, u "java/util/ImmutableCollections$SetN"), (5, u "EMPTY_SET"), (0, u "Ljava/util/ImmutableCollections$SetN;"), (0, .class_ 121), (0, u "java/util/ImmutableCollections$MapN"), (3, u "EMPTY_MAP"), (0, u "Ljava/util/ImmutableCollections$MapN;"), (4, u "EXPAND_FACTOR"), (0, u "I"), (9, u "listCopy"), (0, u "(Ljava/util/Collection;)Ljava/util/List;"), (7, u "listFromArray"), (17, .class_ 170), (0, u "java/util/ImmutableCollections$MapN$MapNIterator"), (0, .class_ 172), (0, u "java/util/ImmutableCollections$MapN$1"), (0, .class_ 174), (0, u "java/util/ImmutableCollections$Map1"), (0, .class_ 176), (0, u "java/util/ImmutableCollections$AbstractImmutableMap"), (0, .class_ 178), (0, u "java/util/ImmutableCollections$SetN$SetNIterator"), (0, .class_ 180), (0, u "java/util/ImmutableCollections$Set12"), (0, .class_ 182), (0, u "java/util/ImmutableCollections$Set12$1"), (0, .class_ 184), (0, u "java/util/ImmutableCollections$AbstractImmutableSet"), (0, .class_ 186), (0, u "java/util/ImmutableCollections$SubList"), (0, .class_ 188), (0, u "java/util/ImmutableCollections$ListItr"), (0, .class_ 190), (0, u "java/util/ImmutableCollections$AbstractImmutableList"), (0, .class_ 192), (0, u "java/util/ImmutableCollections$AbstractImmutableCollection"), (0, .class_ 194), (0, u "java/util/ImmutableCollections$Access"), (0, .class_ 196), (0, u "java/util/ImmutableCollections$Access$1")] 16

def k17m0 : Method := { name := "<init>", desc := "()V", sig := { parameters := [], returnType := none }, accessFlags := 2, code := none }
def k17c1 : Code := { maxStack := 1, maxLocals := 2, code := jdk_56_method_3_code, exceptionTable := #[], attributes := #[] }
def k17m1 : Method := { name := "listCopy", desc := "(Ljava/util/Collection;)Ljava/util/List;", sig := { parameters := [(.object "java/util/Collection")], returnType := some (.object "java/util/List") }, accessFlags := 8, code := some k17c1 }
def k17c2 : Code := { maxStack := 4, maxLocals := 3, code := jdk_56_method_4_code, exceptionTable := #[], attributes := #[] }
def k17m2 : Method := { name := "listFromArray", desc := "([Ljava/lang/Object;)Ljava/util/List;", sig := { parameters := [(.array (.object "java/lang/Object"))], returnType := some (.object "java/util/List") }, accessFlags := 136, code := some k17c2 }
/-- java/util/ImmutableCollections -/
def k17 : Class := { plain "java/util/ImmutableCollections" (some 0) with
  accessFlags := 32
  interfaces := #[]
  cf := some (fileOf pool17 47 #[.nestMembers #[120, 169, 171, 173, 175, 111, 177, 179, 181, 183, 12, 10, 185, 187, 189, 191, 193, 195]] #[{ accessFlags := 2, nameIndex := 5, descriptorIndex := 6, attributes := #[] }, { accessFlags := 8, nameIndex := 142, descriptorIndex := 143, attributes := #[] }, { accessFlags := 136, nameIndex := 151, descriptorIndex := 36, attributes := #[] }] 32 2 #[] #[{ accessFlags := 26, nameIndex := 95, descriptorIndex := 96, attributes := #[] }, { accessFlags := 26, nameIndex := 99, descriptorIndex := 17, attributes := #[] }, { accessFlags := 10, nameIndex := 106, descriptorIndex := 56, attributes := #[] }, { accessFlags := 26, nameIndex := 109, descriptorIndex := 110, attributes := #[] }, { accessFlags := 24, nameIndex := 62, descriptorIndex := 63, attributes := #[] }, { accessFlags := 24, nameIndex := 72, descriptorIndex := 63, attributes := #[] }, { accessFlags := 24, nameIndex := 118, descriptorIndex := 119, attributes := #[] }, { accessFlags := 24, nameIndex := 125, descriptorIndex := 126, attributes := #[] }, { accessFlags := 24, nameIndex := 131, descriptorIndex := 132, attributes := #[] }, { accessFlags := 4120, nameIndex := 50, descriptorIndex := 17, attributes := #[] }])
  fields := #[{ name := "SALT32L", type := .long, accessFlags := 26, slot := 0, constantValue := 0 }, { name := "REVERSE", type := .boolean, accessFlags := 26, slot := 1, constantValue := 0 }, { name := "archivedObjects", type := (.array (.object "java/lang/Object")), accessFlags := 10, slot := 2, constantValue := 0 }, { name := "EMPTY", type := (.object "java/lang/Object"), accessFlags := 26, slot := 3, constantValue := 0 }, { name := "EMPTY_LIST", type := (.object "java/util/ImmutableCollections$ListN"), accessFlags := 24, slot := 4, constantValue := 0 }, { name := "EMPTY_LIST_NULLS", type := (.object "java/util/ImmutableCollections$ListN"), accessFlags := 24, slot := 5, constantValue := 0 }, { name := "EMPTY_SET", type := (.object "java/util/ImmutableCollections$SetN"), accessFlags := 24, slot := 6, constantValue := 0 }, { name := "EMPTY_MAP", type := (.object "java/util/ImmutableCollections$MapN"), accessFlags := 24, slot := 7, constantValue := 0 }, { name := "EXPAND_FACTOR", type := .int, accessFlags := 24, slot := 8, constantValue := 0 }, { name := "$assertionsDisabled", type := .boolean, accessFlags := 4120, slot := 9, constantValue := 0 }]
  methods := #[k17m0, k17m1, k17m2]
  instanceTypes := #[]
  staticTypes := #[.long, .boolean, (.array (.object "java/lang/Object")), (.object "java/lang/Object"), (.object "java/util/ImmutableCollections$ListN"), (.object "java/util/ImmutableCollections$ListN"), (.object "java/util/ImmutableCollections$SetN"), (.object "java/util/ImmutableCollections$MapN"), .int, .boolean]
  resolved := Array.replicate 213 none
  statics := some 2 }

def pool18 : Array CpInfo := pool [(2, .class_ 4), (1, u "java/lang/Object"), (0, u "<init>"), (0, u "()V"), (35, .class_ 44), (1, u "java/util/Objects"), (0, u "requireNonNull"), (0, u "(Ljava/lang/Object;)Ljava/lang/Object;"), (47, u "(Ljava/lang/Object;Ljava/lang/String;)Ljava/lang/Object;")] 89

def k18m0 : Method := { name := "<init>", desc := "()V", sig := { parameters := [], returnType := none }, accessFlags := 2, code := none }
def k18c1 : Code := { maxStack := 2, maxLocals := 1, code := jdk_31_method_10_code, exceptionTable := #[], attributes := #[] }
def k18m1 : Method := { name := "requireNonNull", desc := "(Ljava/lang/Object;)Ljava/lang/Object;", sig := { parameters := [(.object "java/lang/Object")], returnType := some (.object "java/lang/Object") }, accessFlags := 9, code := some k18c1 }
def k18c2 : Code := { maxStack := 3, maxLocals := 2, code := jdk_31_method_11_code, exceptionTable := #[], attributes := #[] }
def k18m2 : Method := { name := "requireNonNull", desc := "(Ljava/lang/Object;Ljava/lang/String;)Ljava/lang/Object;", sig := { parameters := [(.object "java/lang/Object"), (.object "java/lang/String")], returnType := some (.object "java/lang/Object") }, accessFlags := 9, code := some k18c2 }
/-- java/util/Objects -/
def k18 : Class := { plain "java/util/Objects" (some 0) with
  accessFlags := 49
  interfaces := #[]
  cf := some (fileOf pool18 42 #[] #[{ accessFlags := 2, nameIndex := 5, descriptorIndex := 6, attributes := #[] }, { accessFlags := 9, nameIndex := 45, descriptorIndex := 46, attributes := #[] }, { accessFlags := 9, nameIndex := 45, descriptorIndex := 94, attributes := #[] }] 49 2 #[] #[])
  fields := #[]
  methods := #[k18m0, k18m1, k18m2]
  instanceTypes := #[]
  staticTypes := #[]
  resolved := Array.replicate 184 none
  statics := none }

def pool19 : Array CpInfo := pool [(1, .methodref 2 3), (0, .class_ 4), (0, .nameAndType 5 6), (0, u "java/lang/Object"), (0, u "<init>"), (0, u "()V"), (1, .class_ 10), (1, u "java/util/AbstractCollection"), (66, .class_ 78), (0, u "java/util/Collection")] 81

def k19c0 : Code := { maxStack := 1, maxLocals := 1, code := jdk_22_method_1_code, exceptionTable := #[], attributes := #[] }
def k19m0 : Method := { name := "<init>", desc := "()V", sig := { parameters := [], returnType := none }, accessFlags := 4, code := some k19c0 }
/-- java/util/AbstractCollection -/
def k19 : Class := { plain "java/util/AbstractCollection" (some 0) with
  accessFlags := 1057
  interfaces := #[14]
  cf := some (fileOf pool19 8 #[] #[{ accessFlags := 4, nameIndex := 5, descriptorIndex := 6, attributes := #[] }] 1057 2 #[77] #[])
  fields := #[]
  methods := #[k19m0]
  instanceTypes := #[]
  staticTypes := #[]
  resolved := Array.replicate 160 none
  statics := none }

def pool20 : Array CpInfo := pool [(1, .methodref 2 3), (0, .class_ 4), (0, .nameAndType 5 6), (0, u "java/util/AbstractCollection"), (0, u "<init>"), (0, u "()V"), (1, .class_ 10), (1, u "java/util/ImmutableCollections"), (2, .class_ 14), (0, u "java/util/ImmutableCollections$AbstractImmutableCollection")] 41

def k20c0 : Code := { maxStack := 1, maxLocals := 1, code := jdk_47_method_1_code, exceptionTable := #[], attributes := #[] }
def k20m0 : Method := { name := "<init>", desc := "()V", sig := { parameters := [], returnType := none }, accessFlags := 0, code := some k20c0 }
/-- java/util/ImmutableCollections$AbstractImmutableCollection -/
def k20 : Class := { plain "java/util/ImmutableCollections$AbstractImmutableCollection" (some 19) with
  accessFlags := 1056
  interfaces := #[]
  cf := some (fileOf pool20 13 #[.nestHost 8] #[{ accessFlags := 0, nameIndex := 5, descriptorIndex := 6, attributes := #[] }] 1056 2 #[] #[])
  fields := #[]
  methods := #[k20m0]
  instanceTypes := #[]
  staticTypes := #[]
  resolved := Array.replicate 56 none
  statics := none }

def pool21 : Array CpInfo := pool [(1, .class_ 2), (0, u "java/util/RandomAccess"), (0, .class_ 4), (0, u "java/lang/Object")] 2

/-- java/util/RandomAccess -/
def k21 : Class := { plain "java/util/RandomAccess" (some 0) with
  accessFlags := 1537
  interfaces := #[]
  cf := some (fileOf pool21 1 #[] #[] 1537 3 #[] #[])
  fields := #[]
  methods := #[]
  instanceTypes := #[]
  staticTypes := #[]
  resolved := Array.replicate 7 none
  statics := none }

def pool22 : Array CpInfo := pool [(1, .methodref 2 3), (0, .class_ 4), (0, .nameAndType 5 6), (0, u "java/util/ImmutableCollections$AbstractImmutableCollection"), (0, u "<init>"), (0, u "()V"), (1, .class_ 10), (1, u "java/util/ImmutableCollections"), (3, .class_ 16), (1, u "java/util/ImmutableCollections$AbstractImmutableList"), (60, .class_ 78), (0, u "java/util/List"), (45, .class_ 125), (0, u "java/util/RandomAccess")] 70

def k22c0 : Code := { maxStack := 1, maxLocals := 1, code := jdk_46_method_1_code, exceptionTable := #[], attributes := #[] }
def k22m0 : Method := { name := "<init>", desc := "()V", sig := { parameters := [], returnType := none }, accessFlags := 0, code := some k22c0 }
/-- java/util/ImmutableCollections$AbstractImmutableList -/
def k22 : Class := { plain "java/util/ImmutableCollections$AbstractImmutableList" (some 20) with
  accessFlags := 1056
  interfaces := #[16, 21]
  cf := some (fileOf pool22 14 #[.nestHost 8] #[{ accessFlags := 0, nameIndex := 5, descriptorIndex := 6, attributes := #[] }] 1056 2 #[77, 124] #[])
  fields := #[]
  methods := #[k22m0]
  instanceTypes := #[]
  staticTypes := #[]
  resolved := Array.replicate 196 none
  statics := none }

def pool23 : Array CpInfo := pool [(1, .methodref 2 3), (0, .class_ 4), (0, .nameAndType 5 6), (0, u "java/util/ImmutableCollections$AbstractImmutableList"), (0, u "<init>"), (0, u "()V"), (0, .methodref 8 9), (0, .class_ 10), (0, .nameAndType 11 12), (0, u "java/util/Objects"), (0, u "requireNonNull"), (0, u "(Ljava/lang/Object;)Ljava/lang/Object;"), (0, .fieldref 14 15), (0, .class_ 16), (0, .nameAndType 17 18), (0, u "java/util/ImmutableCollections$List12"), (0, u "e0"), (0, u "Ljava/lang/Object;"), (0, .fieldref 20 21), (0, .class_ 22), (0, .nameAndType 23 18), (0, u "java/util/ImmutableCollections"), (0, u "EMPTY"), (0, .fieldref 14 25), (0, .nameAndType 26 18), (0, u "e1"), (24, u "size"), (0, u "()I"), (17, .class_ 71), (0, u "java/io/Serializable"), (4, u "(Ljava/lang/Object;)V"), (8, u "(Ljava/lang/Object;Ljava/lang/Object;)V"), (2, u "isEmpty"), (0, u "()Z"), (0, u "get"), (0, u "(I)Ljava/lang/Object;")] 33

def k23c0 : Code := { maxStack := 2, maxLocals := 2, code := jdk_44_method_1_code, exceptionTable := #[], attributes := #[] }
def k23m0 : Method := { name := "<init>", desc := "(Ljava/lang/Object;)V", sig := { parameters := [(.object "java/lang/Object")], returnType := none }, accessFlags := 0, code := some k23c0 }
def k23c1 : Code := { maxStack := 2, maxLocals := 3, code := jdk_44_method_2_code, exceptionTable := #[], attributes := #[] }
def k23m1 : Method := { name := "<init>", desc := "(Ljava/lang/Object;Ljava/lang/Object;)V", sig := { parameters := [(.object "java/lang/Object"), (.object "java/lang/Object")], returnType := none }, accessFlags := 0, code := some k23c1 }
def k23c2 : Code := { maxStack := 2, maxLocals := 1, code := jdk_44_method_3_code, exceptionTable := #[], attributes := #[] }
def k23m2 : Method := { name := "size", desc := "()I", sig := { parameters := [], returnType := some .int }, accessFlags := 1, code := some k23c2 }
def k23c3 : Code := { maxStack := 1, maxLocals := 1, code := jdk_44_method_4_code, exceptionTable := #[], attributes := #[] }
def k23m3 : Method := { name := "isEmpty", desc := "()Z", sig := { parameters := [], returnType := some .boolean }, accessFlags := 1, code := some k23c3 }
def k23c4 : Code := { maxStack := 2, maxLocals := 2, code := jdk_44_method_5_code, exceptionTable := #[], attributes := #[] }
def k23m4 : Method := { name := "get", desc := "(I)Ljava/lang/Object;", sig := { parameters := [.int], returnType := some (.object "java/lang/Object") }, accessFlags := 1, code := some k23c4 }
/-- java/util/ImmutableCollections$List12 -/
def k23 : Class := { plain "java/util/ImmutableCollections$List12" (some 22) with
  accessFlags := 48
  interfaces := #[6]
  cf := some (fileOf pool23 14 #[.nestHost 20] #[{ accessFlags := 0, nameIndex := 5, descriptorIndex := 76, attributes := #[] }, { accessFlags := 0, nameIndex := 5, descriptorIndex := 85, attributes := #[] }, { accessFlags := 1, nameIndex := 51, descriptorIndex := 52, attributes := #[] }, { accessFlags := 1, nameIndex := 88, descriptorIndex := 89, attributes := #[] }, { accessFlags := 1, nameIndex := 90, descriptorIndex := 91, attributes := #[] }] 48 2 #[70] #[{ accessFlags := 18, nameIndex := 17, descriptorIndex := 18, attributes := #[] }, { accessFlags := 18, nameIndex := 26, descriptorIndex := 18, attributes := #[] }])
  fields := #[{ name := "e0", type := (.object "java/lang/Object"), accessFlags := 18, slot := 0, constantValue := 0 }, { name := "e1", type := (.object "java/lang/Object"), accessFlags := 18, slot := 1, constantValue := 0 }]
  methods := #[k23m0, k23m1, k23m2, k23m3, k23m4]
  instanceTypes := #[(.object "java/lang/Object"), (.object "java/lang/Object")]
  staticTypes := #[]
  resolved := Array.replicate 125 none
  statics := none }

def pool24 : Array CpInfo := pool [(1, .methodref 2 3), (0, .class_ 4), (0, .nameAndType 5 6), (0, u "java/util/ImmutableCollections$AbstractImmutableList"), (0, u "<init>"), (0, u "()V"), (0, .fieldref 8 9), (0, .class_ 10), (0, .nameAndType 11 12), (0, u "java/util/ImmutableCollections$ListN"), (0, u "elements"), (0, u "[Ljava/lang/Object;"), (0, .fieldref 8 14), (0, .nameAndType 15 16), (0, u "allowNulls"), (0, u "Z"), (42, .class_ 60), (0, u "java/io/Serializable"), (4, u "([Ljava/lang/Object;Z)V"), (8, u "isEmpty"), (0, u "()Z"), (1, u "size"), (0, u "()I"), (0, u "get"), (0, u "(I)Ljava/lang/Object;"), (33, .class_ 115), (0, u "java/util/ImmutableCollections")] 3

def k24c0 : Code := { maxStack := 2, maxLocals := 3, code := jdk_45_method_1_code, exceptionTable := #[], attributes := #[] }
def k24m0 : Method := { name := "<init>", desc := "([Ljava/lang/Object;Z)V", sig := { parameters := [(.array (.object "java/lang/Object")), .boolean], returnType := none }, accessFlags := 2, code := some k24c0 }
def k24c1 : Code := { maxStack := 1, maxLocals := 1, code := jdk_45_method_2_code, exceptionTable := #[], attributes := #[] }
def k24m1 : Method := { name := "isEmpty", desc := "()Z", sig := { parameters := [], returnType := some .boolean }, accessFlags := 1, code := some k24c1 }
def k24c2 : Code := { maxStack := 1, maxLocals := 1, code := jdk_45_method_3_code, exceptionTable := #[], attributes := #[] }
def k24m2 : Method := { name := "size", desc := "()I", sig := { parameters := [], returnType := some .int }, accessFlags := 1, code := some k24c2 }
def k24c3 : Code := { maxStack := 2, maxLocals := 2, code := jdk_45_method_4_code, exceptionTable := #[], attributes := #[] }
def k24m3 : Method := { name := "get", desc := "(I)Ljava/lang/Object;", sig := { parameters := [.int], returnType := some (.object "java/lang/Object") }, accessFlags := 1, code := some k24c3 }
/-- java/util/ImmutableCollections$ListN -/
def k24 : Class := { plain "java/util/ImmutableCollections$ListN" (some 22) with
  accessFlags := 48
  interfaces := #[6]
  cf := some (fileOf pool24 8 #[.nestHost 114] #[{ accessFlags := 2, nameIndex := 5, descriptorIndex := 65, attributes := #[] }, { accessFlags := 1, nameIndex := 74, descriptorIndex := 75, attributes := #[] }, { accessFlags := 1, nameIndex := 77, descriptorIndex := 78, attributes := #[] }, { accessFlags := 1, nameIndex := 79, descriptorIndex := 80, attributes := #[] }] 48 2 #[59] #[{ accessFlags := 18, nameIndex := 11, descriptorIndex := 12, attributes := #[] }, { accessFlags := 18, nameIndex := 15, descriptorIndex := 16, attributes := #[] }])
  fields := #[{ name := "elements", type := (.array (.object "java/lang/Object")), accessFlags := 18, slot := 0, constantValue := 0 }, { name := "allowNulls", type := .boolean, accessFlags := 18, slot := 1, constantValue := 0 }]
  methods := #[k24m0, k24m1, k24m2, k24m3]
  instanceTypes := #[(.array (.object "java/lang/Object")), .boolean]
  staticTypes := #[]
  resolved := Array.replicate 119 none
  statics := none }

def pool25 : Array CpInfo := pool [(1, .methodref 2 3), (0, .class_ 4), (0, .nameAndType 5 6), (0, u "java/util/AbstractCollection"), (0, u "<init>"), (0, u "()V"), (0, .fieldref 8 9), (0, .class_ 10), (0, .nameAndType 11 12), (0, u "java/util/AbstractList"), (0, u "modCount"), (0, u "I"), (64, .class_ 78), (0, u "java/util/AbstractList$Itr"), (3, .class_ 83), (0, u "java/util/AbstractList$ListItr"), (9, .class_ 94), (0, u "java/util/AbstractList$RandomAccessSubList"), (3, .class_ 99), (0, u "java/util/AbstractList$SubList"), (33, .class_ 134), (0, u "java/util/List"), (73, .class_ 209), (0, u "java/util/AbstractList$SubList$1"), (0, .class_ 211), (0, u "java/util/AbstractList$RandomAccessSpliterator")] 6

def k25c0 : Code := { maxStack := 2, maxLocals := 1, code := jdk_39_method_1_code, exceptionTable := #[], attributes := #[] }
def k25m0 : Method := { name := "<init>", desc := "()V", sig := { parameters := [], returnType := none }, accessFlags := 4, code := some k25c0 }
/-- java/util/AbstractList -/
def k25 : Class := { plain "java/util/AbstractList" (some 19) with
  accessFlags := 1057
  interfaces := #[16]
  cf := some (fileOf pool25 8 #[.nestMembers #[93, 98, 208, 210, 82, 77]] #[{ accessFlags := 4, nameIndex := 5, descriptorIndex := 6, attributes := #[] }] 1057 2 #[133] #[{ accessFlags := 132, nameIndex := 11, descriptorIndex := 12, attributes := #[] }])
  fields := #[{ name := "modCount", type := .int, accessFlags := 132, slot := 0, constantValue := 0 }]
  methods := #[k25m0]
  instanceTypes := #[.int]
  staticTypes := #[]
  resolved := Array.replicate 218 none
  statics := none }

def pool26 : Array CpInfo := pool [(1, .class_ 2), (0, u "java/lang/Cloneable"), (0, .class_ 4), (0, u "java/lang/Object")] 2

/-- java/lang/Cloneable -/
def k26 : Class := { plain "java/lang/Cloneable" (some 0) with
  accessFlags := 1537
  interfaces := #[]
  cf := some (fileOf pool26 1 #[] #[] 1537 3 #[] #[])
  fields := #[]
  methods := #[]
  instanceTypes := #[]
  staticTypes := #[]
  resolved := Array.replicate 7 none
  statics := none }

def pool27 : Array CpInfo := pool [(1, .methodref 2 3), (0, .class_ 4), (0, .nameAndType 5 6), (0, u "java/util/AbstractList"), (0, u "<init>"), (0, u "()V"), (0, .class_ 8), (0, u "java/lang/Object"), (0, .fieldref 10 11), (0, .class_ 12), (0, .nameAndType 13 14), (0, u "java/util/ArrayList"), (0, u "elementData"), (0, u "[Ljava/lang/Object;"), (2, u "EMPTY_ELEMENTDATA"), (21, .fieldref 10 40), (0, .nameAndType 41 14), (0, u "DEFAULTCAPACITY_EMPTY_ELEMENTDATA"), (4, u "toArray"), (0, u "()[Ljava/lang/Object;"), (0, .fieldref 10 49), (0, .nameAndType 50 51), (0, u "size"), (0, u "I"), (6, .class_ 60), (1, u "java/util/Arrays"), (0, u "copyOf"), (1, .fieldref 10 64), (0, .nameAndType 65 51), (0, u "modCount"), (0, .methodref 58 67), (0, .nameAndType 61 68), (0, u "([Ljava/lang/Object;I)[Ljava/lang/Object;"), (0, .methodref 10 70), (0, .nameAndType 71 72), (0, u "grow"), (0, u "(I)[Ljava/lang/Object;"), (6, .methodref 80 81), (0, .class_ 82), (0, .nameAndType 83 84), (0, u "java/lang/Math"), (0, u "max"), (0, u "(II)I"), (11, u "(Ljava/lang/Object;)Z"), (32, .methodref 10 130), (0, .nameAndType 71 47), (0, .methodref 10 132), (0, .nameAndType 133 134), (0, u "add"), (0, u "(Ljava/lang/Object;[Ljava/lang/Object;I)V"), (13, .class_ 149), (0, u "java/util/List"), (23, u "()Z"), (88, .class_ 263), (0, u "java/util/ArrayList$ListItr"), (3, .class_ 268), (0, u "java/util/ArrayList$Itr"), (7, .class_ 277), (0, u "java/util/ArrayList$SubList"), (12, .class_ 291), (0, u "java/util/ArrayList$ArrayListSpliterator"), (37, .class_ 330), (0, u "java/util/RandomAccess"), (0, .class_ 332), (0, u "java/lang/Cloneable"), (0, .class_ 334), (0, u "java/io/Serializable"), (0, u "serialVersionUID"), (0, u "J"), (3, u "DEFAULT_CAPACITY"), (22, u "isEmpty"), (136, .class_ 501), (0, u "java/util/ArrayList$SubList$2"), (0, .class_ 503), (0, u "java/util/ArrayList$SubList$1")] 5

def k27c0 : Code := { maxStack := 2, maxLocals := 1, code := jdk_38_method_2_code, exceptionTable := #[], attributes := #[] }
def k27m0 : Method := { name := "<init>", desc := "()V", sig := { parameters := [], returnType := none }, accessFlags := 1, code := some k27c0 }
def k27c1 : Code := { maxStack := 4, maxLocals := 4, code := jdk_38_method_6_code, exceptionTable := #[], attributes := #[] }
def k27m1 : Method := { name := "grow", desc := "(I)[Ljava/lang/Object;", sig := { parameters := [.int], returnType := some (.array (.object "java/lang/Object")) }, accessFlags := 2, code := some k27c1 }
def k27c2 : Code := { maxStack := 3, maxLocals := 1, code := jdk_38_method_7_code, exceptionTable := #[], attributes := #[] }
def k27m2 : Method := { name := "grow", desc := "()[Ljava/lang/Object;", sig := { parameters := [], returnType := some (.array (.object "java/lang/Object")) }, accessFlags := 2, code := some k27c2 }
def k27c3 : Code := { maxStack := 1, maxLocals := 1, code := jdk_38_method_9_code, exceptionTable := #[], attributes := #[] }
def k27m3 : Method := { name := "isEmpty", desc := "()Z", sig := { parameters := [], returnType := some .boolean }, accessFlags := 1, code := some k27c3 }
def k27c4 : Code := { maxStack := 2, maxLocals := 1, code := jdk_38_method_16_code, exceptionTable := #[], attributes := #[] }
def k27m4 : Method := { name := "toArray", desc := "()[Ljava/lang/Object;", sig := { parameters := [], returnType := some (.array (.object "java/lang/Object")) }, accessFlags := 1, code := some k27c4 }
def k27c5 : Code := { maxStack := 3, maxLocals := 4, code := jdk_38_method_24_code, exceptionTable := #[], attributes := #[] }
def k27m5 : Method := { name := "add", desc := "(Ljava/lang/Object;[Ljava/lang/Object;I)V", sig := { parameters := [(.object "java/lang/Object"), (.array (.object "java/lang/Object")), .int], returnType := none }, accessFlags := 2, code := some k27c5 }
def k27c6 : Code := { maxStack := 4, maxLocals := 2, code := jdk_38_method_25_code, exceptionTable := #[], attributes := #[] }
def k27m6 : Method := { name := "add", desc := "(Ljava/lang/Object;)Z", sig := { parameters := [(.object "java/lang/Object")], returnType := some .boolean }, accessFlags := 1, code := some k27c6 }
/-- java/util/ArrayList -/
def k27 : Class := { plain "java/util/ArrayList" (some 25) with
  accessFlags := 33
  interfaces := #[16, 21, 26, 6]
  cf := some (fileOf pool27 10 #[.nestMembers #[290, 276, 500, 502, 262, 267]] #[{ accessFlags := 1, nameIndex := 5, descriptorIndex := 6, attributes := #[] }, { accessFlags := 2, nameIndex := 71, descriptorIndex := 72, attributes := #[] }, { accessFlags := 2, nameIndex := 71, descriptorIndex := 47, attributes := #[] }, { accessFlags := 1, nameIndex := 363, descriptorIndex := 173, attributes := #[] }, { accessFlags := 1, nameIndex := 46, descriptorIndex := 47, attributes := #[] }, { accessFlags := 2, nameIndex := 133, descriptorIndex := 134, attributes := #[] }, { accessFlags := 1, nameIndex := 133, descriptorIndex := 96, attributes := #[] }] 33 2 #[148, 329, 331, 333] #[{ accessFlags := 26, nameIndex := 335, descriptorIndex := 336, attributes := #[] }, { accessFlags := 26, nameIndex := 340, descriptorIndex := 51, attributes := #[] }, { accessFlags := 26, nameIndex := 17, descriptorIndex := 14, attributes := #[] }, { accessFlags := 26, nameIndex := 41, descriptorIndex := 14, attributes := #[] }, { accessFlags := 128, nameIndex := 13, descriptorIndex := 14, attributes := #[] }, { accessFlags := 2, nameIndex := 50, descriptorIndex := 51, attributes := #[] }])
  fields := #[{ name := "serialVersionUID", type := .long, accessFlags := 26, slot := 0, constantValue := 0 }, { name := "DEFAULT_CAPACITY", type := .int, accessFlags := 26, slot := 1, constantValue := 0 }, { name := "EMPTY_ELEMENTDATA", type := (.array (.object "java/lang/Object")), accessFlags := 26, slot := 2, constantValue := 0 }, { name := "DEFAULTCAPACITY_EMPTY_ELEMENTDATA", type := (.array (.object "java/lang/Object")), accessFlags := 26, slot := 3, constantValue := 0 }, { name := "elementData", type := (.array (.object "java/lang/Object")), accessFlags := 128, slot := 1, constantValue := 0 }, { name := "size", type := .int, accessFlags := 2, slot := 2, constantValue := 0 }]
  methods := #[k27m0, k27m1, k27m2, k27m3, k27m4, k27m5, k27m6]
  instanceTypes := #[.int, (.array (.object "java/lang/Object")), .int]
  staticTypes := #[.long, .int, (.array (.object "java/lang/Object")), (.array (.object "java/lang/Object"))]
  resolved := Array.replicate 509 none
  statics := some 3 }

def pool28 : Array CpInfo := pool [(1, .class_ 2), (0, u "java/lang/Math"), (1, .class_ 6), (1, u "java/lang/Object"), (0, u "<init>"), (0, u "()V"), (89, .class_ 100), (1, u "java/lang/Math$RandomNumberGeneratorHolder"), (71, u "negativeZeroFloatBits"), (0, u "J"), (2, u "negativeZeroDoubleBits"), (21, u "max"), (2, u "min"), (43, u "$assertionsDisabled"), (0, u "Z"), (88, u "(II)I"), (2, u "twoToTheDoubleScaleDown"), (0, u "D"), (4, u "twoToTheDoubleScaleUp"), (9, u "E"), (3, u "PI"), (2, u "TAU"), (2, u "DEGREES_TO_RADIANS"), (0, u "RADIANS_TO_DEGREES")] 94

def k28m0 : Method := { name := "<init>", desc := "()V", sig := { parameters := [], returnType := none }, accessFlags := 2, code := none }
def k28c1 : Code := { maxStack := 2, maxLocals := 2, code := jdk_29_method_65_code, exceptionTable := #[], attributes := #[] }
def k28m1 : Method := { name := "max", desc := "(II)I", sig := { parameters := [.int, .int], returnType := some .int }, accessFlags := 9, code := some k28c1 }
def k28c2 : Code := { maxStack := 2, maxLocals := 2, code := jdk_29_method_69_code, exceptionTable := #[], attributes := #[] }
def k28m2 : Method := { name := "min", desc := "(II)I", sig := { parameters := [.int, .int], returnType := some .int }, accessFlags := 9, code := some k28c2 }
/-- java/lang/Math -/
def k28 : Class := { plain "java/lang/Math" (some 0) with
  accessFlags := 49
  interfaces := #[]
  cf := some (fileOf pool28 1 #[.nestMembers #[98]] #[{ accessFlags := 2, nameIndex := 7, descriptorIndex := 8, attributes := #[] }, { accessFlags := 9, nameIndex := 198, descriptorIndex := 335, attributes := #[] }, { accessFlags := 9, nameIndex := 201, descriptorIndex := 335, attributes := #[] }] 49 4 #[] #[{ accessFlags := 25, nameIndex := 354, descriptorIndex := 339, attributes := #[] }, { accessFlags := 25, nameIndex := 358, descriptorIndex := 339, attributes := #[] }, { accessFlags := 25, nameIndex := 361, descriptorIndex := 339, attributes := #[] }, { accessFlags := 26, nameIndex := 364, descriptorIndex := 339, attributes := #[] }, { accessFlags := 26, nameIndex := 365, descriptorIndex := 339, attributes := #[] }, { accessFlags := 26, nameIndex := 172, descriptorIndex := 173, attributes := #[] }, { accessFlags := 26, nameIndex := 176, descriptorIndex := 173, attributes := #[] }, { accessFlags := 8, nameIndex := 344, descriptorIndex := 339, attributes := #[] }, { accessFlags := 8, nameIndex := 338, descriptorIndex := 339, attributes := #[] }, { accessFlags := 4120, nameIndex := 245, descriptorIndex := 246, attributes := #[] }])
  fields := #[{ name := "E", type := .double, accessFlags := 25, slot := 0, constantValue := 0 }, { name := "PI", type := .double, accessFlags := 25, slot := 1, constantValue := 0 }, { name := "TAU", type := .double, accessFlags := 25, slot := 2, constantValue := 0 }, { name := "DEGREES_TO_RADIANS", type := .double, accessFlags := 26, slot := 3, constantValue := 0 }, { name := "RADIANS_TO_DEGREES", type := .double, accessFlags := 26, slot := 4, constantValue := 0 }, { name := "negativeZeroFloatBits", type := .long, accessFlags := 26, slot := 5, constantValue := 0 }, { name := "negativeZeroDoubleBits", type := .long, accessFlags := 26, slot := 6, constantValue := 0 }, { name := "twoToTheDoubleScaleUp", type := .double, accessFlags := 8, slot := 7, constantValue := 0 }, { name := "twoToTheDoubleScaleDown", type := .double, accessFlags := 8, slot := 8, constantValue := 0 }, { name := "$assertionsDisabled", type := .boolean, accessFlags := 4120, slot := 9, constantValue := 0 }]
  methods := #[k28m0, k28m1, k28m2]
  instanceTypes := #[]
  staticTypes := #[.double, .double, .double, .double, .double, .long, .long, .double, .double, .boolean]
  resolved := Array.replicate 460 none
  statics := none }

def pool29 : Array CpInfo := pool [(1, .methodref 2 3), (0, .class_ 4), (0, .nameAndType 5 6), (0, u "java/lang/Record"), (0, u "<init>"), (0, u "()V"), (0, .interfaceMethodref 8 9), (0, .class_ 10), (0, .nameAndType 11 12), (0, u "java/util/List"), (0, u "copyOf"), (0, u "(Ljava/util/Collection;)Ljava/util/List;"), (0, .interfaceMethodref 8 14), (0, .nameAndType 15 16), (0, u "isEmpty"), (0, u "()Z"), (0, .interfaceMethodref 8 18), (0, .nameAndType 19 20), (0, u "size"), (0, u "()I"), (0, .interfaceMethodref 8 22), (0, .nameAndType 23 24), (0, u "get"), (0, u "(I)Ljava/lang/Object;"), (0, .class_ 26), (0, u "com/example/wombat/wombat/rules/Descriptor"), (0, .methodref 25 28), (0, .nameAndType 29 30), (0, u "rateLimit"), (0, u "()Lcom/example/wombat/wombat/rules/RateLimit;"), (7, .fieldref 39 40), (0, .class_ 41), (0, .nameAndType 42 43), (0, u "com/example/wombat/wombat/rules/Limit"), (0, u "descriptors"), (0, u "Ljava/util/List;"), (20, u "(Ljava/util/List;)V")] 33

def k29c0 : Code := { maxStack := 3, maxLocals := 2, code := prog_28_method_1_code, exceptionTable := #[], attributes := #[] }
def k29m0 : Method := { name := "<init>", desc := "(Ljava/util/List;)V", sig := { parameters := [(.object "java/util/List")], returnType := none }, accessFlags := 1, code := some k29c0 }
def k29c1 : Code := { maxStack := 3, maxLocals := 1, code := prog_28_method_2_code, exceptionTable := #[], attributes := #[] }
def k29m1 : Method := { name := "rateLimit", desc := "()Lcom/example/wombat/wombat/rules/RateLimit;", sig := { parameters := [], returnType := some (.object "com/example/wombat/wombat/rules/RateLimit") }, accessFlags := 1, code := some k29c1 }
/-- com/example/wombat/wombat/rules/Limit -/
def k29 : Class := { plain "com/example/wombat/wombat/rules/Limit" (some 2) with
  accessFlags := 49
  interfaces := #[]
  cf := some (fileOf pool29 39 #[] #[{ accessFlags := 1, nameIndex := 5, descriptorIndex := 64, attributes := #[] }, { accessFlags := 1, nameIndex := 29, descriptorIndex := 30, attributes := #[] }] 49 2 #[] #[{ accessFlags := 18, nameIndex := 42, descriptorIndex := 43, attributes := #[] }])
  fields := #[{ name := "descriptors", type := (.object "java/util/List"), accessFlags := 18, slot := 0, constantValue := 0 }]
  methods := #[k29m0, k29m1]
  instanceTypes := #[(.object "java/util/List")]
  staticTypes := #[]
  resolved := Array.replicate 98 none
  statics := none }

def pool30 : Array CpInfo := pool [(2, .class_ 4), (1, u "java/lang/Object"), (0, u "<init>"), (0, u "()V"), (7, .class_ 16), (1, u "java/util/Arrays"), (57, .class_ 76), (1, u "java/util/Arrays$NaturalOrder"), (9, .methodref 2 87), (0, .nameAndType 88 89), (0, u "getClass"), (0, u "()Ljava/lang/Class;"), (20, .class_ 111), (0, u "[Ljava/lang/Object;"), (1, .class_ 115), (1, u "java/util/Arrays$LegacyMergeSort"), (1, u "Z"), (32, .methodref 151 152), (0, .class_ 153), (0, .nameAndType 154 155), (0, u "java/lang/System"), (0, u "arraycopy"), (0, u "(Ljava/lang/Object;ILjava/lang/Object;II)V"), (144, .methodref 14 301), (0, .nameAndType 302 303), (0, u "copyOf"), (0, u "([Ljava/lang/Object;ILjava/lang/Class;)[Ljava/lang/Object;"), (0, .methodref 305 306), (0, .class_ 307), (0, .nameAndType 308 309), (0, u "java/lang/Math"), (0, u "min"), (0, u "(II)I"), (65, .class_ 376), (0, u "java/util/Arrays$ArrayList"), (68, u "$assertionsDisabled"), (269, u "MIN_ARRAY_SORT_GRAN"), (0, u "I"), (2, u "INSERTIONSORT_THRESHOLD"), (140, u "([Ljava/lang/Object;I)[Ljava/lang/Object;"), (114, .class_ 976), (0, u "java/util/Arrays$ArrayItr")] 52

def k30m0 : Method := { name := "<init>", desc := "()V", sig := { parameters := [], returnType := none }, accessFlags := 2, code := none }
def k30c1 : Code := { maxStack := 3, maxLocals := 2, code := jdk_65_method_119_code, exceptionTable := #[], attributes := #[] }
def k30m1 : Method := { name := "copyOf", desc := "([Ljava/lang/Object;I)[Ljava/lang/Object;", sig := { parameters := [(.array (.object "java/lang/Object")), .int], returnType := some (.array (.object "java/lang/Object")) }, accessFlags := 9, code := some k30c1 }
def k30c2 : Code := { maxStack := 6, maxLocals := 4, code := jdk_65_method_120_code, exceptionTable := #[], attributes := #[] }
def k30m2 : Method := { name := "copyOf", desc := "([Ljava/lang/Object;ILjava/lang/Class;)[Ljava/lang/Object;", sig := { parameters := [(.array (.object "java/lang/Object")), .int, (.object "java/lang/Class")], returnType := some (.array (.object "java/lang/Object")) }, accessFlags := 9, code := some k30c2 }
/-- java/util/Arrays -/
def k30 : Class := { plain "java/util/Arrays" (some 0) with
  accessFlags := 49
  interfaces := #[]
  cf := some (fileOf pool30 14 #[.nestMembers #[975, 375, 113, 74]] #[{ accessFlags := 2, nameIndex := 5, descriptorIndex := 6, attributes := #[] }, { accessFlags := 9, nameIndex := 302, descriptorIndex := 860, attributes := #[] }, { accessFlags := 9, nameIndex := 302, descriptorIndex := 303, attributes := #[] }] 49 2 #[] #[{ accessFlags := 26, nameIndex := 715, descriptorIndex := 716, attributes := #[] }, { accessFlags := 26, nameIndex := 719, descriptorIndex := 716, attributes := #[] }, { accessFlags := 4120, nameIndex := 445, descriptorIndex := 117, attributes := #[] }])
  fields := #[{ name := "MIN_ARRAY_SORT_GRAN", type := .int, accessFlags := 26, slot := 0, constantValue := 0 }, { name := "INSERTIONSORT_THRESHOLD", type := .int, accessFlags := 26, slot := 1, constantValue := 0 }, { name := "$assertionsDisabled", type := .boolean, accessFlags := 4120, slot := 2, constantValue := 0 }]
  methods := #[k30m0, k30m1, k30m2]
  instanceTypes := #[]
  staticTypes := #[.int, .int, .boolean]
  resolved := Array.replicate 1029 none
  statics := none }

def pool31 : Array CpInfo := pool [(2, .class_ 4), (1, u "java/lang/Object"), (0, u "<init>"), (0, u "()V"), (1, .class_ 10), (1, u "java/lang/System"), (0, u "allowSecurityManager"), (0, u "I"), (16, u "cons"), (0, u "Ljava/io/Console;"), (77, .class_ 110), (1, u "java/lang/System$CallersHolder"), (43, u "initialErrStream"), (0, u "Ljava/io/PrintStream;"), (19, u "security"), (0, u "Ljava/lang/SecurityManager;"), (31, .class_ 209), (0, u "java/lang/System$1"), (7, u "props"), (0, u "Ljava/util/Properties;"), (2, u "lineSeparator"), (0, u "Ljava/lang/String;"), (96, .class_ 321), (1, u "java/lang/System$LoggerFinder"), (5, .class_ 328), (0, u "java/lang/System$Logger"), (67, u "err"), (2, u "out"), (91, u "notSupportedJnuEncoding"), (15, u "in"), (17, u "initialIn"), (0, u "Ljava/io/InputStream;"), (35, u "bootLayer"), (0, u "Ljava/lang/ModuleLayer;"), (99, .class_ 664), (0, u "java/lang/System$2"), (9, u "NEVER"), (2, u "MAYBE"), (49, u "arraycopy"), (0, u "(Ljava/lang/Object;ILjava/lang/Object;II)V"), (72, .class_ 802), (0, u "java/lang/System$Logger$Level")] 31

def k31m0 : Method := { name := "<init>", desc := "()V", sig := { parameters := [], returnType := none }, accessFlags := 2, code := none }
def k31m1 : Method := { name := "arraycopy", desc := "(Ljava/lang/Object;ILjava/lang/Object;II)V", sig := { parameters := [(.object "java/lang/Object"), .int, (.object "java/lang/Object"), .int, .int], returnType := none }, accessFlags := 265, code := none }
/-- java/lang/System -/
def k31 : Class := { plain "java/lang/System" (some 0) with
  accessFlags := 49
  interfaces := #[]
  cf := some (fileOf pool31 8 #[.nestMembers #[319, 327, 801, 108, 663, 208]] #[{ accessFlags := 2, nameIndex := 5, descriptorIndex := 6, attributes := #[] }, { accessFlags := 265, nameIndex := 727, descriptorIndex := 728, attributes := #[] }] 49 2 #[] #[{ accessFlags := 25, nameIndex := 507, descriptorIndex := 526, attributes := #[] }, { accessFlags := 25, nameIndex := 399, descriptorIndex := 155, attributes := #[] }, { accessFlags := 25, nameIndex := 396, descriptorIndex := 155, attributes := #[] }, { accessFlags := 10, nameIndex := 525, descriptorIndex := 526, attributes := #[] }, { accessFlags := 26, nameIndex := 674, descriptorIndex := 12, attributes := #[] }, { accessFlags := 26, nameIndex := 677, descriptorIndex := 12, attributes := #[] }, { accessFlags := 10, nameIndex := 11, descriptorIndex := 12, attributes := #[] }, { accessFlags := 74, nameIndex := 175, descriptorIndex := 176, attributes := #[] }, { accessFlags := 10, nameIndex := 491, descriptorIndex := 222, attributes := #[] }, { accessFlags := 74, nameIndex := 29, descriptorIndex := 30, attributes := #[] }, { accessFlags := 74, nameIndex := 154, descriptorIndex := 155, attributes := #[] }, { accessFlags := 10, nameIndex := 217, descriptorIndex := 218, attributes := #[] }, { accessFlags := 10, nameIndex := 221, descriptorIndex := 222, attributes := #[] }, { accessFlags := 8, nameIndex := 562, descriptorIndex := 563, attributes := #[] }])
  fields := #[{ name := "in", type := (.object "java/io/InputStream"), accessFlags := 25, slot := 0, constantValue := 0 }, { name := "out", type := (.object "java/io/PrintStream"), accessFlags := 25, slot := 1, constantValue := 0 }, { name := "err", type := (.object "java/io/PrintStream"), accessFlags := 25, slot := 2, constantValue := 0 }, { name := "initialIn", type := (.object "java/io/InputStream"), accessFlags := 10, slot := 3, constantValue := 0 }, { name := "NEVER", type := .int, accessFlags := 26, slot := 4, constantValue := 0 }, { name := "MAYBE", type := .int, accessFlags := 26, slot := 5, constantValue := 0 }, { name := "allowSecurityManager", type := .int, accessFlags := 10, slot := 6, constantValue := 0 }, { name := "security", type := (.object "java/lang/SecurityManager"), accessFlags := 74, slot := 7, constantValue := 0 }, { name := "notSupportedJnuEncoding", type := (.object "java/lang/String"), accessFlags := 10, slot := 8, constantValue := 0 }, { name := "cons", type := (.object "java/io/Console"), accessFlags := 74, slot := 9, constantValue := 0 }, { name := "initialErrStream", type := (.object "java/io/PrintStream"), accessFlags := 74, slot := 10, constantValue := 0 }, { name := "props", type := (.object "java/util/Properties"), accessFlags := 10, slot := 11, constantValue := 0 }, { name := "lineSeparator", type := (.object "java/lang/String"), accessFlags := 10, slot := 12, constantValue := 0 }, { name := "bootLayer", type := (.object "java/lang/ModuleLayer"), accessFlags := 8, slot := 13, constantValue := 0 }]
  methods := #[k31m0, k31m1]
  instanceTypes := #[]
  staticTypes := #[(.object "java/io/InputStream"), (.object "java/io/PrintStream"), (.object "java/io/PrintStream"), (.object "java/io/InputStream"), .int, .int, .int, (.object "java/lang/SecurityManager"), (.object "java/lang/String"), (.object "java/io/Console"), (.object "java/io/PrintStream"), (.object "java/util/Properties"), (.object "java/lang/String"), (.object "java/lang/ModuleLayer")]
  resolved := Array.replicate 834 none
  statics := none }

def pool32 : Array CpInfo := pool [(1, .class_ 2), (0, u "java/time/temporal/TemporalAmount"), (0, .class_ 4), (0, u "java/lang/Object")] 11

/-- java/time/temporal/TemporalAmount -/
def k32 : Class := { plain "java/time/temporal/TemporalAmount" (some 0) with
  accessFlags := 1537
  interfaces := #[]
  cf := some (fileOf pool32 1 #[] #[] 1537 3 #[] #[])
  fields := #[]
  methods := #[]
  instanceTypes := #[]
  staticTypes := #[]
  resolved := Array.replicate 16 none
  statics := none }

def pool33 : Array CpInfo := pool [(11, .class_ 13), (1, u "java/time/Duration"), (20, u "ZERO"), (0, u "Ljava/time/Duration;"), (13, .class_ 51), (1, u "java/time/temporal/TemporalAmount"), (27, .class_ 81), (1, u "java/time/Duration$Lazy"), (35, u "seconds"), (101, .class_ 220), (0, u "java/lang/Object"), (2, u "J"), (2, u "nanos"), (0, u "I"), (11, .class_ 241), (1, u "java/time/Duration$DurationUnits"), (27, .class_ 271), (1, u "java/time/Duration$1"), (91, u "BI_NANOS_PER_SECOND"), (0, u "Ljava/math/BigInteger;"), (120, .class_ 486), (0, u "java/lang/Comparable"), (0, .class_ 488), (0, u "java/io/Serializable"), (0, u "serialVersionUID")] 166

/-- java/time/Duration -/
def k33 : Class := { plain "java/time/Duration" (some 0) with
  accessFlags := 49
  interfaces := #[32, 5, 6]
  cf := some (fileOf pool33 11 #[.nestMembers #[269, 239, 79]] #[] 49 219 #[49, 485, 487] #[{ accessFlags := 25, nameIndex := 34, descriptorIndex := 35, attributes := #[] }, { accessFlags := 26, nameIndex := 489, descriptorIndex := 223, attributes := #[] }, { accessFlags := 26, nameIndex := 363, descriptorIndex := 364, attributes := #[] }, { accessFlags := 18, nameIndex := 117, descriptorIndex := 223, attributes := #[] }, { accessFlags := 18, nameIndex := 226, descriptorIndex := 227, attributes := #[] }])
  fields := #[{ name := "ZERO", type := (.object "java/time/Duration"), accessFlags := 25, slot := 0, constantValue := 0 }, { name := "serialVersionUID", type := .long, accessFlags := 26, slot := 1, constantValue := 0 }, { name := "BI_NANOS_PER_SECOND", type := (.object "java/math/BigInteger"), accessFlags := 26, slot := 2, constantValue := 0 }, { name := "seconds", type := .long, accessFlags := 18, slot := 0, constantValue := 0 }, { name := "nanos", type := .int, accessFlags := 18, slot := 1, constantValue := 0 }]
  methods := #[]
  instanceTypes := #[.long, .int]
  staticTypes := #[(.object "java/time/Duration"), .long, (.object "java/math/BigInteger")]
  resolved := Array.replicate 656 none
  statics := none }

def pool34 : Array CpInfo := pool [(1, .class_ 2), (0, u "java/lang/Class"), (0, .class_ 4), (0, u "java/lang/Object")] 0

/-- java/lang/Class -/
def k34 : Class := { plain "java/lang/Class" (some 0) with
  accessFlags := 49
  interfaces := #[]
  cf := some (fileOf pool34 1 #[] #[] 49 3 #[] #[])
  fields := #[]
  methods := #[]
  instanceTypes := #[]
  staticTypes := #[]
  resolved := Array.replicate 5 none
  statics := none }

/-- the primitive byte -/
def k35 : Class := { plain "byte" none with kind := .primitive 'B', accessFlags := 0x411 }
/-- [B -/
def k36 : Class := { plain "[B" (some 0) with kind := .array 35 .byte, interfaces := #[26, 6], accessFlags := 1041 }

/-- the primitive int -/
def k37 : Class := { plain "int" none with kind := .primitive 'I', accessFlags := 0x411 }
/-- [I -/
def k38 : Class := { plain "[I" (some 0) with kind := .array 37 .int, interfaces := #[26, 6], accessFlags := 1041 }

/-- [Ljava/lang/Object; -/
def k39 : Class := { plain "[Ljava/lang/Object;" (some 0) with kind := .array 0 (.object "java/lang/Object"), interfaces := #[26, 6], accessFlags := 1041, mirror := some 4 }

def heap : Heap := #[{ cls := 3, slots := #[.ref 5], vm := .statics 3 },
  { cls := 8, slots := #[.ref 6, .null, .null], vm := .statics 8 },
  { cls := 17, slots := #[.long 0, .int 0, .null, .ref 10, .ref 7, .null, .null, .null, .int 0, .int 1], vm := .statics 17 },
  { cls := 27, slots := #[.long 0, .int 0, .ref 8, .ref 9], vm := .statics 27 },
  { cls := 34, slots := #[], vm := .mirror 39 },
  { cls := 33, slots := #[.long 1, .int 0], vm := .none },
  { cls := 8, slots := #[.null, .int 0, .int 0], vm := .none },
  { cls := 24, slots := #[.ref 8, .int 0], vm := .none },
  { cls := 39, slots := #[], vm := .none },
  { cls := 39, slots := #[], vm := .none },
  { cls := 0, slots := #[], vm := .none }]
def classes : Array Class := #[k0, k1, k2, k3, k4, k5, k6, k7, k8, k9, k10, k11, k12, k13, k14, k15, k16, k17, k18, k19, k20, k21, k22, k23, k24, k25, k26, k27, k28, k29, k30, k31, k32, k33, k34, k35, k36, k37, k38, k39]
def interned : List (Array UInt16 × Addr) := []
def slotsUsed : Nat := 25
def theMethod : MethodId := ⟨1, 1⟩
def args0 : Array Value := #[.int 5, .int 6, .long 7, .long 1, .long 2]
def aboutOver (below : List Frame) : State where
  vm := { classes := classes, interned := interned.toArray }
  heap := heap
  slotsUsed := slotsUsed
  threads := #[{ frames := .invoking theMethod args0 :: below }]
def below0 : List Frame := [.native { method := ⟨0, 0⟩, args := #[] }]
def about1 : State := aboutOver below0
def p0 : Program := .bare "" "" ""
def e0 : Env := launch0.env 0 0 0
theorem w_frames : about1.frames = Frame.invoking theMethod args0 :: below0 := rfl
set_option maxRecDepth 65536 in
theorem w_args : argsFit about1.vm theMethod args0 = true := by decide +kernel
set_option maxRecDepth 65536 in
theorem w_heap : heapFits about1 = true := by decide +kernel
set_option maxRecDepth 65536 in
theorem w_runnable : about1.curStatus? = some .runnable := by decide +kernel
set_option maxRecDepth 65536 in
theorem w_alone : about1.alone = true := by decide +kernel
set_option maxRecDepth 65536 in
theorem w_named : about1.methodNamed? x = some theMethod := by decide +kernel
set_option maxRecDepth 65536 in
theorem w_hears : about1.hears theMethod below0 = true := by decide +kernel
set_option maxRecDepth 65536 in
theorem w_ripe : about1.ripe theMethod args0 below0 = true := by decide +kernel
theorem w_running : about1.status = .running := rfl
set_option maxRecDepth 65536 in
theorem w_room : about1.hasRoom e0.platform room_1 = true :=
  launch0.hasRoom_least _ room_1 (by decide +kernel) (by decide +kernel) (by decide +kernel) (by decide +kernel) (by decide +kernel) (by decide +kernel)
theorem allAtoms_all (ts : List Jvm.Cond) (a : Array Jvm.Value) (st : Jvm.State) : (allAtoms ts).before a st = ts.all (fun c => c.before a st) := by
  induction ts with
  | nil => rfl
  | cons c t ih =>
    show (Jvm.Cond.and c (allAtoms t)).before a st = _
    rw [Jvm.Cond.before_and, ih, List.all_cons]
def words1 : List Jvm.Cond := Jvm.Cond.code x code maxLocals ret :: tables_1
/-- a 'code' word, met by the world's own term for the bytes: nothing is compared byte by byte -/
theorem code_word {y : MethodName} {bytes : ByteArray} {mx : Nat} {rt : Option FieldType} {a : Array Value} {s : State} {m : MethodId} {meth : Method} {c : Code} (h1 : s.methodNamed? y = some m) (h2 : s.vm.method? m = some meth) (h3 : meth.code = some c) (h4 : c.code = bytes)
    (h5 : (c.maxLocals == mx && c.exceptionTable.isEmpty && decide (c.maxStack ≤ mostOperands) && decide (meth.sig.returnType = rt) && !meth.locks && decide (parseMethodDescriptor y.desc = some meth.sig)) = true) : (Jvm.Cond.code y bytes mx rt).before a s = true := by
  simp only [Bool.and_eq_true, beq_iff_eq, Bool.not_eq_true', decide_eq_true_eq] at h5
  obtain ⟨⟨⟨⟨⟨g1, g2⟩, g3⟩, g4⟩, g5⟩, g6⟩ := h5
  simp [Cond.before, Cond.holds, Cond.value, h1, h2, h3, h4, g1, g2, g3, g4, g5, g6]
def isCode : Jvm.Cond → Bool
  | .code _ _ _ _ => true
  | _ => false
theorem all_split {L : List Jvm.Cond} {P : Jvm.Cond → Bool} (h1 : L.all (fun c => isCode c || P c) = true) (h2 : ∀ c ∈ L.filter isCode, P c = true) : L.all P = true := by
  refine List.all_eq_true.mpr fun c hc => ?_
  have h := List.all_eq_true.mp h1 c hc
  rcases Bool.eq_false_or_eq_true (isCode c) with hi | hi
  · exact h2 c (List.mem_filter.mpr ⟨hc, hi⟩)
  · simpa [hi] using h
set_option maxRecDepth 65536 in
theorem w_c0 : (Jvm.Cond.code x code maxLocals ret).before args0 about1 = true := code_word (m := ⟨1, 1⟩) (meth := k1m1) (c := k1c1) (by decide +kernel) rfl rfl rfl (by decide +kernel)
set_option maxRecDepth 65536 in
theorem w_c1 : (Jvm.Cond.code ({ cls := "com/example/wombat/wombat/rules/RateLimit", name := "<init>", desc := "(Lcom/example/wombat/wombat/rules/Algorithm;Lcom/example/wombat/wombat/rules/Unit;JJ)V" } : Jvm.MethodName) prog_31_method_1_code (7 : Nat) (Option.none : Option Jvm.ClassFile.FieldType)).before args0 about1 = true := code_word (m := ⟨3, 0⟩) (meth := k3m0) (c := k3c0) (by decide +kernel) rfl rfl rfl (by decide +kernel)
set_option maxRecDepth 65536 in
theorem w_c2 : (Jvm.Cond.code ({ cls := "com/example/wombat/wombat/rules/RateLimit", name := "<init>", desc := "(Lcom/example/wombat/wombat/rules/Algorithm;Lcom/example/wombat/wombat/rules/Unit;JJLjava/time/Duration;Lcom/example/wombat/wombat/rules/OnStoreFailure;)V" } : Jvm.MethodName) prog_31_method_2_code (9 : Nat) (Option.none : Option Jvm.ClassFile.FieldType)).before args0 about1 = true := code_word (m := ⟨3, 1⟩) (meth := k3m1) (c := k3c1) (by decide +kernel) rfl rfl rfl (by decide +kernel)
set_option maxRecDepth 65536 in
theorem w_c3 : (Jvm.Cond.code ({ cls := "java/lang/Record", name := "<init>", desc := "()V" } : Jvm.MethodName) jdk_30_method_1_code (1 : Nat) (Option.none : Option Jvm.ClassFile.FieldType)).before args0 about1 = true := code_word (m := ⟨2, 0⟩) (meth := k2m0) (c := k2c0) (by decide +kernel) rfl rfl rfl (by decide +kernel)
set_option maxRecDepth 65536 in
theorem w_c4 : (Jvm.Cond.code ({ cls := "java/lang/Object", name := "<init>", desc := "()V" } : Jvm.MethodName) object_method_1_code (1 : Nat) (Option.none : Option Jvm.ClassFile.FieldType)).before args0 about1 = true := code_word (m := ⟨0, 0⟩) (meth := k0m0) (c := k0c0) (by decide +kernel) rfl rfl rfl (by decide +kernel)
set_option maxRecDepth 65536 in
theorem w_c5 : (Jvm.Cond.code ({ cls := "com/example/wombat/wombat/rules/Descriptor", name := "<init>", desc := "(Ljava/lang/String;Lcom/example/wombat/wombat/rules/RateLimit;)V" } : Jvm.MethodName) prog_27_method_2_code (3 : Nat) (Option.none : Option Jvm.ClassFile.FieldType)).before args0 about1 = true := code_word (m := ⟨9, 1⟩) (meth := k9m1) (c := k9c1) (by decide +kernel) rfl rfl rfl (by decide +kernel)
set_option maxRecDepth 65536 in
theorem w_c6 : (Jvm.Cond.code ({ cls := "java/util/List", name := "of", desc := "()Ljava/util/List;" } : Jvm.MethodName) jdk_40_method_36_code (0 : Nat) (Option.some (Jvm.ClassFile.FieldType.object "java/util/List"))).before args0 about1 = true := code_word (m := ⟨16, 3⟩) (meth := k16m3) (c := k16c3) (by decide +kernel) rfl rfl rfl (by decide +kernel)
set_option maxRecDepth 65536 in
theorem w_c7 : (Jvm.Cond.code ({ cls := "com/example/wombat/wombat/rules/Descriptor", name := "<init>", desc := "(Ljava/lang/String;Ljava/lang/String;Lcom/example/wombat/wombat/rules/RateLimit;Ljava/util/List;)V" } : Jvm.MethodName) prog_27_method_1_code (5 : Nat) (Option.none : Option Jvm.ClassFile.FieldType)).before args0 about1 = true := code_word (m := ⟨9, 0⟩) (meth := k9m0) (c := k9c0) (by decide +kernel) rfl rfl rfl (by decide +kernel)
set_option maxRecDepth 65536 in
theorem w_c8 : (Jvm.Cond.code ({ cls := "java/util/Objects", name := "requireNonNull", desc := "(Ljava/lang/Object;Ljava/lang/String;)Ljava/lang/Object;" } : Jvm.MethodName) jdk_31_method_11_code (2 : Nat) (Option.some (Jvm.ClassFile.FieldType.object "java/lang/Object"))).before args0 about1 = true := code_word (m := ⟨18, 2⟩) (meth := k18m2) (c := k18c2) (by decide +kernel) rfl rfl rfl (by decide +kernel)
set_option maxRecDepth 65536 in
theorem w_c9 : (Jvm.Cond.code ({ cls := "java/util/List", name := "copyOf", desc := "(Ljava/util/Collection;)Ljava/util/List;" } : Jvm.MethodName) jdk_40_method_48_code (1 : Nat) (Option.some (Jvm.ClassFile.FieldType.object "java/util/List"))).before args0 about1 = true := code_word (m := ⟨16, 5⟩) (meth := k16m5) (c := k16c5) (by decide +kernel) rfl rfl rfl (by decide +kernel)
set_option maxRecDepth 65536 in
theorem w_c10 : (Jvm.Cond.code ({ cls := "java/util/ImmutableCollections", name := "listCopy", desc := "(Ljava/util/Collection;)Ljava/util/List;" } : Jvm.MethodName) jdk_56_method_3_code (2 : Nat) (Option.some (Jvm.ClassFile.FieldType.object "java/util/List"))).before args0 about1 = true := code_word (m := ⟨17, 1⟩) (meth := k17m1) (c := k17c1) (by decide +kernel) rfl rfl rfl (by decide +kernel)
set_option maxRecDepth 65536 in
theorem w_c11 : (Jvm.Cond.code ({ cls := "java/util/ArrayList", name := "<init>", desc := "()V" } : Jvm.MethodName) jdk_38_method_2_code (1 : Nat) (Option.none : Option Jvm.ClassFile.FieldType)).before args0 about1 = true := code_word (m := ⟨27, 0⟩) (meth := k27m0) (c := k27c0) (by decide +kernel) rfl rfl rfl (by decide +kernel)
set_option maxRecDepth 65536 in
theorem w_c12 : (Jvm.Cond.code ({ cls := "java/util/AbstractList", name := "<init>", desc := "()V" } : Jvm.MethodName) jdk_39_method_1_code (1 : Nat) (Option.none : Option Jvm.ClassFile.FieldType)).before args0 about1 = true := code_word (m := ⟨25, 0⟩) (meth := k25m0) (c := k25c0) (by decide +kernel) rfl rfl rfl (by decide +kernel)
set_option maxRecDepth 65536 in
theorem w_c13 : (Jvm.Cond.code ({ cls := "java/util/AbstractCollection", name := "<init>", desc := "()V" } : Jvm.MethodName) jdk_22_method_1_code (1 : Nat) (Option.none : Option Jvm.ClassFile.FieldType)).before args0 about1 = true := code_word (m := ⟨19, 0⟩) (meth := k19m0) (c := k19c0) (by decide +kernel) rfl rfl rfl (by decide +kernel)
set_option maxRecDepth 65536 in
theorem w_c14 : (Jvm.Cond.code ({ cls := "java/util/ArrayList", name := "add", desc := "(Ljava/lang/Object;)Z" } : Jvm.MethodName) jdk_38_method_25_code (2 : Nat) (Option.some Jvm.ClassFile.FieldType.boolean)).before args0 about1 = true := code_word (m := ⟨27, 6⟩) (meth := k27m6) (c := k27c6) (by decide +kernel) rfl rfl rfl (by decide +kernel)
set_option maxRecDepth 65536 in
theorem w_c15 : (Jvm.Cond.code ({ cls := "java/util/ArrayList", name := "add", desc := "(Ljava/lang/Object;[Ljava/lang/Object;I)V" } : Jvm.MethodName) jdk_38_method_24_code (4 : Nat) (Option.none : Option Jvm.ClassFile.FieldType)).before args0 about1 = true := code_word (m := ⟨27, 5⟩) (meth := k27m5) (c := k27c5) (by decide +kernel) rfl rfl rfl (by decide +kernel)
set_option maxRecDepth 65536 in
theorem w_c16 : (Jvm.Cond.code ({ cls := "java/util/ArrayList", name := "grow", desc := "()[Ljava/lang/Object;" } : Jvm.MethodName) jdk_38_method_7_code (1 : Nat) (Option.some (Jvm.ClassFile.FieldType.array (Jvm.ClassFile.FieldType.object "java/lang/Object")))).before args0 about1 = true := code_word (m := ⟨27, 2⟩) (meth := k27m2) (c := k27c2) (by decide +kernel) rfl rfl rfl (by decide +kernel)
set_option maxRecDepth 65536 in
theorem w_c17 : (Jvm.Cond.code ({ cls := "java/util/ArrayList", name := "grow", desc := "(I)[Ljava/lang/Object;" } : Jvm.MethodName) jdk_38_method_6_code (4 : Nat) (Option.some (Jvm.ClassFile.FieldType.array (Jvm.ClassFile.FieldType.object "java/lang/Object")))).before args0 about1 = true := code_word (m := ⟨27, 1⟩) (meth := k27m1) (c := k27c1) (by decide +kernel) rfl rfl rfl (by decide +kernel)
set_option maxRecDepth 65536 in
theorem w_c18 : (Jvm.Cond.code ({ cls := "java/lang/Math", name := "max", desc := "(II)I" } : Jvm.MethodName) jdk_29_method_65_code (2 : Nat) (Option.some Jvm.ClassFile.FieldType.int)).before args0 about1 = true := code_word (m := ⟨28, 1⟩) (meth := k28m1) (c := k28c1) (by decide +kernel) rfl rfl rfl (by decide +kernel)
set_option maxRecDepth 65536 in
theorem w_c19 : (Jvm.Cond.code ({ cls := "com/example/wombat/wombat/rules/Limit", name := "<init>", desc := "(Ljava/util/List;)V" } : Jvm.MethodName) prog_28_method_1_code (2 : Nat) (Option.none : Option Jvm.ClassFile.FieldType)).before args0 about1 = true := code_word (m := ⟨29, 0⟩) (meth := k29m0) (c := k29c0) (by decide +kernel) rfl rfl rfl (by decide +kernel)
set_option maxRecDepth 65536 in
theorem w_c20 : (Jvm.Cond.code ({ cls := "java/util/ArrayList", name := "isEmpty", desc := "()Z" } : Jvm.MethodName) jdk_38_method_9_code (1 : Nat) (Option.some Jvm.ClassFile.FieldType.boolean)).before args0 about1 = true := code_word (m := ⟨27, 3⟩) (meth := k27m3) (c := k27c3) (by decide +kernel) rfl rfl rfl (by decide +kernel)
set_option maxRecDepth 65536 in
theorem w_c21 : (Jvm.Cond.code ({ cls := "java/util/ArrayList", name := "toArray", desc := "()[Ljava/lang/Object;" } : Jvm.MethodName) jdk_38_method_16_code (1 : Nat) (Option.some (Jvm.ClassFile.FieldType.array (Jvm.ClassFile.FieldType.object "java/lang/Object")))).before args0 about1 = true := code_word (m := ⟨27, 4⟩) (meth := k27m4) (c := k27c4) (by decide +kernel) rfl rfl rfl (by decide +kernel)
set_option maxRecDepth 65536 in
theorem w_c22 : (Jvm.Cond.code ({ cls := "java/util/Arrays", name := "copyOf", desc := "([Ljava/lang/Object;I)[Ljava/lang/Object;" } : Jvm.MethodName) jdk_65_method_119_code (2 : Nat) (Option.some (Jvm.ClassFile.FieldType.array (Jvm.ClassFile.FieldType.object "java/lang/Object")))).before args0 about1 = true := code_word (m := ⟨30, 1⟩) (meth := k30m1) (c := k30c1) (by decide +kernel) rfl rfl rfl (by decide +kernel)
set_option maxRecDepth 65536 in
theorem w_c23 : (Jvm.Cond.code ({ cls := "java/util/Arrays", name := "copyOf", desc := "([Ljava/lang/Object;ILjava/lang/Class;)[Ljava/lang/Object;" } : Jvm.MethodName) jdk_65_method_120_code (4 : Nat) (Option.some (Jvm.ClassFile.FieldType.array (Jvm.ClassFile.FieldType.object "java/lang/Object")))).before args0 about1 = true := code_word (m := ⟨30, 2⟩) (meth := k30m2) (c := k30c2) (by decide +kernel) rfl rfl rfl (by decide +kernel)
set_option maxRecDepth 65536 in
theorem w_c24 : (Jvm.Cond.code ({ cls := "java/lang/Math", name := "min", desc := "(II)I" } : Jvm.MethodName) jdk_29_method_69_code (2 : Nat) (Option.some Jvm.ClassFile.FieldType.int)).before args0 about1 = true := code_word (m := ⟨28, 2⟩) (meth := k28m2) (c := k28c2) (by decide +kernel) rfl rfl rfl (by decide +kernel)
set_option maxRecDepth 65536 in
theorem w_c25 : (Jvm.Cond.code ({ cls := "java/util/List", name := "of", desc := "([Ljava/lang/Object;)Ljava/util/List;" } : Jvm.MethodName) jdk_40_method_47_code (2 : Nat) (Option.some (Jvm.ClassFile.FieldType.object "java/util/List"))).before args0 about1 = true := code_word (m := ⟨16, 4⟩) (meth := k16m4) (c := k16c4) (by decide +kernel) rfl rfl rfl (by decide +kernel)
set_option maxRecDepth 65536 in
theorem w_c26 : (Jvm.Cond.code ({ cls := "java/util/ImmutableCollections$List12", name := "<init>", desc := "(Ljava/lang/Object;)V" } : Jvm.MethodName) jdk_44_method_1_code (2 : Nat) (Option.none : Option Jvm.ClassFile.FieldType)).before args0 about1 = true := code_word (m := ⟨23, 0⟩) (meth := k23m0) (c := k23c0) (by decide +kernel) rfl rfl rfl (by decide +kernel)
set_option maxRecDepth 65536 in
theorem w_c27 : (Jvm.Cond.code ({ cls := "java/util/ImmutableCollections$AbstractImmutableList", name := "<init>", desc := "()V" } : Jvm.MethodName) jdk_46_method_1_code (1 : Nat) (Option.none : Option Jvm.ClassFile.FieldType)).before args0 about1 = true := code_word (m := ⟨22, 0⟩) (meth := k22m0) (c := k22c0) (by decide +kernel) rfl rfl rfl (by decide +kernel)
set_option maxRecDepth 65536 in
theorem w_c28 : (Jvm.Cond.code ({ cls := "java/util/ImmutableCollections$AbstractImmutableCollection", name := "<init>", desc := "()V" } : Jvm.MethodName) jdk_47_method_1_code (1 : Nat) (Option.none : Option Jvm.ClassFile.FieldType)).before args0 about1 = true := code_word (m := ⟨20, 0⟩) (meth := k20m0) (c := k20c0) (by decide +kernel) rfl rfl rfl (by decide +kernel)
set_option maxRecDepth 65536 in
theorem w_c29 : (Jvm.Cond.code ({ cls := "java/util/Objects", name := "requireNonNull", desc := "(Ljava/lang/Object;)Ljava/lang/Object;" } : Jvm.MethodName) jdk_31_method_10_code (1 : Nat) (Option.some (Jvm.ClassFile.FieldType.object "java/lang/Object"))).before args0 about1 = true := code_word (m := ⟨18, 1⟩) (meth := k18m1) (c := k18c1) (by decide +kernel) rfl rfl rfl (by decide +kernel)
set_option maxRecDepth 65536 in
theorem w_c30 : (Jvm.Cond.code ({ cls := "java/util/ImmutableCollections$List12", name := "isEmpty", desc := "()Z" } : Jvm.MethodName) jdk_44_method_4_code (1 : Nat) (Option.some Jvm.ClassFile.FieldType.boolean)).before args0 about1 = true := code_word (m := ⟨23, 3⟩) (meth := k23m3) (c := k23c3) (by decide +kernel) rfl rfl rfl (by decide +kernel)
set_option maxRecDepth 65536 in
theorem w_c31 : (Jvm.Cond.code ({ cls := "java/util/ImmutableCollections$List12", name := "size", desc := "()I" } : Jvm.MethodName) jdk_44_method_3_code (1 : Nat) (Option.some Jvm.ClassFile.FieldType.int)).before args0 about1 = true := code_word (m := ⟨23, 2⟩) (meth := k23m2) (c := k23c2) (by decide +kernel) rfl rfl rfl (by decide +kernel)
set_option maxRecDepth 65536 in
theorem w_c32 : (Jvm.Cond.code ({ cls := "java/util/ImmutableCollections$List12", name := "get", desc := "(I)Ljava/lang/Object;" } : Jvm.MethodName) jdk_44_method_5_code (2 : Nat) (Option.some (Jvm.ClassFile.FieldType.object "java/lang/Object"))).before args0 about1 = true := code_word (m := ⟨23, 4⟩) (meth := k23m4) (c := k23c4) (by decide +kernel) rfl rfl rfl (by decide +kernel)
set_option maxRecDepth 65536 in
theorem w_c33 : (Jvm.Cond.code ({ cls := "com/example/wombat/wombat/rules/Descriptor", name := "rateLimit", desc := "()Lcom/example/wombat/wombat/rules/RateLimit;" } : Jvm.MethodName) prog_27_method_9_code (1 : Nat) (Option.some (Jvm.ClassFile.FieldType.object "com/example/wombat/wombat/rules/RateLimit"))).before args0 about1 = true := code_word (m := ⟨9, 2⟩) (meth := k9m2) (c := k9c2) (by decide +kernel) rfl rfl rfl (by decide +kernel)
set_option maxRecDepth 65536 in
theorem w_c34 : (Jvm.Cond.code ({ cls := "com/example/wombat/wombat/rules/Limit", name := "rateLimit", desc := "()Lcom/example/wombat/wombat/rules/RateLimit;" } : Jvm.MethodName) prog_28_method_2_code (1 : Nat) (Option.some (Jvm.ClassFile.FieldType.object "com/example/wombat/wombat/rules/RateLimit"))).before args0 about1 = true := code_word (m := ⟨29, 1⟩) (meth := k29m1) (c := k29c1) (by decide +kernel) rfl rfl rfl (by decide +kernel)
set_option maxRecDepth 65536 in
theorem w_c35 : (Jvm.Cond.code ({ cls := "com/example/wombat/wombat/rules/RateLimit", name := "requestsPerUnit", desc := "()J" } : Jvm.MethodName) prog_31_method_8_code (1 : Nat) (Option.some Jvm.ClassFile.FieldType.long)).before args0 about1 = true := code_word (m := ⟨3, 2⟩) (meth := k3m2) (c := k3c2) (by decide +kernel) rfl rfl rfl (by decide +kernel)
set_option maxRecDepth 65536 in
theorem w_c36 : (Jvm.Cond.code ({ cls := "java/util/ImmutableCollections$List12", name := "<init>", desc := "(Ljava/lang/Object;Ljava/lang/Object;)V" } : Jvm.MethodName) jdk_44_method_2_code (3 : Nat) (Option.none : Option Jvm.ClassFile.FieldType)).before args0 about1 = true := code_word (m := ⟨23, 1⟩) (meth := k23m1) (c := k23c1) (by decide +kernel) rfl rfl rfl (by decide +kernel)
set_option maxRecDepth 65536 in
theorem w_c37 : (Jvm.Cond.code ({ cls := "java/util/ImmutableCollections", name := "listFromArray", desc := "([Ljava/lang/Object;)Ljava/util/List;" } : Jvm.MethodName) jdk_56_method_4_code (3 : Nat) (Option.some (Jvm.ClassFile.FieldType.object "java/util/List"))).before args0 about1 = true := code_word (m := ⟨17, 2⟩) (meth := k17m2) (c := k17c2) (by decide +kernel) rfl rfl rfl (by decide +kernel)
set_option maxRecDepth 65536 in
theorem w_c38 : (Jvm.Cond.code ({ cls := "java/util/ImmutableCollections$ListN", name := "<init>", desc := "([Ljava/lang/Object;Z)V" } : Jvm.MethodName) jdk_45_method_1_code (3 : Nat) (Option.none : Option Jvm.ClassFile.FieldType)).before args0 about1 = true := code_word (m := ⟨24, 0⟩) (meth := k24m0) (c := k24c0) (by decide +kernel) rfl rfl rfl (by decide +kernel)
set_option maxRecDepth 65536 in
theorem w_c39 : (Jvm.Cond.code ({ cls := "java/util/ImmutableCollections$ListN", name := "isEmpty", desc := "()Z" } : Jvm.MethodName) jdk_45_method_2_code (1 : Nat) (Option.some Jvm.ClassFile.FieldType.boolean)).before args0 about1 = true := code_word (m := ⟨24, 1⟩) (meth := k24m1) (c := k24c1) (by decide +kernel) rfl rfl rfl (by decide +kernel)
set_option maxRecDepth 65536 in
theorem w_c40 : (Jvm.Cond.code ({ cls := "java/util/ImmutableCollections$ListN", name := "size", desc := "()I" } : Jvm.MethodName) jdk_45_method_3_code (1 : Nat) (Option.some Jvm.ClassFile.FieldType.int)).before args0 about1 = true := code_word (m := ⟨24, 2⟩) (meth := k24m2) (c := k24c2) (by decide +kernel) rfl rfl rfl (by decide +kernel)
set_option maxRecDepth 65536 in
theorem w_c41 : (Jvm.Cond.code ({ cls := "java/util/ImmutableCollections$ListN", name := "get", desc := "(I)Ljava/lang/Object;" } : Jvm.MethodName) jdk_45_method_4_code (2 : Nat) (Option.some (Jvm.ClassFile.FieldType.object "java/lang/Object"))).before args0 about1 = true := code_word (m := ⟨24, 3⟩) (meth := k24m3) (c := k24c3) (by decide +kernel) rfl rfl rfl (by decide +kernel)
def codes1 : List Jvm.Cond := [Jvm.Cond.code x code maxLocals ret, Jvm.Cond.code ({ cls := "com/example/wombat/wombat/rules/RateLimit", name := "<init>", desc := "(Lcom/example/wombat/wombat/rules/Algorithm;Lcom/example/wombat/wombat/rules/Unit;JJ)V" } : Jvm.MethodName) prog_31_method_1_code (7 : Nat) (Option.none : Option Jvm.ClassFile.FieldType), Jvm.Cond.code ({ cls := "com/example/wombat/wombat/rules/RateLimit", name := "<init>", desc := "(Lcom/example/wombat/wombat/rules/Algorithm;Lcom/example/wombat/wombat/rules/Unit;JJLjava/time/Duration;Lcom/example/wombat/wombat/rules/OnStoreFailure;)V" } : Jvm.MethodName) prog_31_method_2_code (9 : Nat) (Option.none : Option Jvm.ClassFile.FieldType), Jvm.Cond.code ({ cls := "java/lang/Record", name := "<init>", desc := "()V" } : Jvm.MethodName) jdk_30_method_1_code (1 : Nat) (Option.none : Option Jvm.ClassFile.FieldType), Jvm.Cond.code ({ cls := "java/lang/Object", name := "<init>", desc := "()V" } : Jvm.MethodName) object_method_1_code (1 : Nat) (Option.none : Option Jvm.ClassFile.FieldType), Jvm.Cond.code ({ cls := "com/example/wombat/wombat/rules/Descriptor", name := "<init>", desc := "(Ljava/lang/String;Lcom/example/wombat/wombat/rules/RateLimit;)V" } : Jvm.MethodName) prog_27_method_2_code (3 : Nat) (Option.none : Option Jvm.ClassFile.FieldType), Jvm.Cond.code ({ cls := "java/util/List", name := "of", desc := "()Ljava/util/List;" } : Jvm.MethodName) jdk_40_method_36_code (0 : Nat) (Option.some (Jvm.ClassFile.FieldType.object "java/util/List")), Jvm.Cond.code ({ cls := "com/example/wombat/wombat/rules/Descriptor", name := "<init>", desc := "(Ljava/lang/String;Ljava/lang/String;Lcom/example/wombat/wombat/rules/RateLimit;Ljava/util/List;)V" } : Jvm.MethodName) prog_27_method_1_code (5 : Nat) (Option.none : Option Jvm.ClassFile.FieldType), Jvm.Cond.code ({ cls := "java/util/Objects", name := "requireNonNull", desc := "(Ljava/lang/Object;Ljava/lang/String;)Ljava/lang/Object;" } : Jvm.MethodName) jdk_31_method_11_code (2 : Nat) (Option.some (Jvm.ClassFile.FieldType.object "java/lang/Object")), Jvm.Cond.code ({ cls := "java/util/List", name := "copyOf", desc := "(Ljava/util/Collection;)Ljava/util/List;" } : Jvm.MethodName) jdk_40_method_48_code (1 : Nat) (Option.some (Jvm.ClassFile.FieldType.object "java/util/List")), Jvm.Cond.code ({ cls := "java/util/ImmutableCollections", name := "listCopy", desc := "(Ljava/util/Collection;)Ljava/util/List;" } : Jvm.MethodName) jdk_56_method_3_code (2 : Nat) (Option.some (Jvm.ClassFile.FieldType.object "java/util/List")), Jvm.Cond.code ({ cls := "java/util/ArrayList", name := "<init>", desc := "()V" } : Jvm.MethodName) jdk_38_method_2_code (1 : Nat) (Option.none : Option Jvm.ClassFile.FieldType), Jvm.Cond.code ({ cls := "java/util/AbstractList", name := "<init>", desc := "()V" } : Jvm.MethodName) jdk_39_method_1_code (1 : Nat) (Option.none : Option Jvm.ClassFile.FieldType), Jvm.Cond.code ({ cls := "java/util/AbstractCollection", name := "<init>", desc := "()V" } : Jvm.MethodName) jdk_22_method_1_code (1 : Nat) (Option.none : Option Jvm.ClassFile.FieldType), Jvm.Cond.code ({ cls := "java/util/ArrayList", name := "add", desc := "(Ljava/lang/Object;)Z" } : Jvm.MethodName) jdk_38_method_25_code (2 : Nat) (Option.some Jvm.ClassFile.FieldType.boolean), Jvm.Cond.code ({ cls := "java/util/ArrayList", name := "add", desc := "(Ljava/lang/Object;[Ljava/lang/Object;I)V" } : Jvm.MethodName) jdk_38_method_24_code (4 : Nat) (Option.none : Option Jvm.ClassFile.FieldType), Jvm.Cond.code ({ cls := "java/util/ArrayList", name := "grow", desc := "()[Ljava/lang/Object;" } : Jvm.MethodName) jdk_38_method_7_code (1 : Nat) (Option.some (Jvm.ClassFile.FieldType.array (Jvm.ClassFile.FieldType.object "java/lang/Object"))), Jvm.Cond.code ({ cls := "java/util/ArrayList", name := "grow", desc := "(I)[Ljava/lang/Object;" } : Jvm.MethodName) jdk_38_method_6_code (4 : Nat) (Option.some (Jvm.ClassFile.FieldType.array (Jvm.ClassFile.FieldType.object "java/lang/Object"))), Jvm.Cond.code ({ cls := "java/lang/Math", name := "max", desc := "(II)I" } : Jvm.MethodName) jdk_29_method_65_code (2 : Nat) (Option.some Jvm.ClassFile.FieldType.int), Jvm.Cond.code ({ cls := "com/example/wombat/wombat/rules/Limit", name := "<init>", desc := "(Ljava/util/List;)V" } : Jvm.MethodName) prog_28_method_1_code (2 : Nat) (Option.none : Option Jvm.ClassFile.FieldType), Jvm.Cond.code ({ cls := "java/util/ArrayList", name := "isEmpty", desc := "()Z" } : Jvm.MethodName) jdk_38_method_9_code (1 : Nat) (Option.some Jvm.ClassFile.FieldType.boolean), Jvm.Cond.code ({ cls := "java/util/ArrayList", name := "toArray", desc := "()[Ljava/lang/Object;" } : Jvm.MethodName) jdk_38_method_16_code (1 : Nat) (Option.some (Jvm.ClassFile.FieldType.array (Jvm.ClassFile.FieldType.object "java/lang/Object"))), Jvm.Cond.code ({ cls := "java/util/Arrays", name := "copyOf", desc := "([Ljava/lang/Object;I)[Ljava/lang/Object;" } : Jvm.MethodName) jdk_65_method_119_code (2 : Nat) (Option.some (Jvm.ClassFile.FieldType.array (Jvm.ClassFile.FieldType.object "java/lang/Object"))), Jvm.Cond.code ({ cls := "java/util/Arrays", name := "copyOf", desc := "([Ljava/lang/Object;ILjava/lang/Class;)[Ljava/lang/Object;" } : Jvm.MethodName) jdk_65_method_120_code (4 : Nat) (Option.some (Jvm.ClassFile.FieldType.array (Jvm.ClassFile.FieldType.object "java/lang/Object"))), Jvm.Cond.code ({ cls := "java/lang/Math", name := "min", desc := "(II)I" } : Jvm.MethodName) jdk_29_method_69_code (2 : Nat) (Option.some Jvm.ClassFile.FieldType.int), Jvm.Cond.code ({ cls := "java/util/List", name := "of", desc := "([Ljava/lang/Object;)Ljava/util/List;" } : Jvm.MethodName) jdk_40_method_47_code (2 : Nat) (Option.some (Jvm.ClassFile.FieldType.object "java/util/List")), Jvm.Cond.code ({ cls := "java/util/ImmutableCollections$List12", name := "<init>", desc := "(Ljava/lang/Object;)V" } : Jvm.MethodName) jdk_44_method_1_code (2 : Nat) (Option.none : Option Jvm.ClassFile.FieldType), Jvm.Cond.code ({ cls := "java/util/ImmutableCollections$AbstractImmutableList", name := "<init>", desc := "()V" } : Jvm.MethodName) jdk_46_method_1_code (1 : Nat) (Option.none : Option Jvm.ClassFile.FieldType), Jvm.Cond.code ({ cls := "java/util/ImmutableCollections$AbstractImmutableCollection", name := "<init>", desc := "()V" } : Jvm.MethodName) jdk_47_method_1_code (1 : Nat) (Option.none : Option Jvm.ClassFile.FieldType), Jvm.Cond.code ({ cls := "java/util/Objects", name := "requireNonNull", desc := "(Ljava/lang/Object;)Ljava/lang/Object;" } : Jvm.MethodName) jdk_31_method_10_code (1 : Nat) (Option.some (Jvm.ClassFile.FieldType.object "java/lang/Object")), Jvm.Cond.code ({ cls := "java/util/ImmutableCollections$List12", name := "isEmpty", desc := "()Z" } : Jvm.MethodName) jdk_44_method_4_code (1 : Nat) (Option.some Jvm.ClassFile.FieldType.boolean), Jvm.Cond.code ({ cls := "java/util/ImmutableCollections$List12", name := "size", desc := "()I" } : Jvm.MethodName) jdk_44_method_3_code (1 : Nat) (Option.some Jvm.ClassFile.FieldType.int), Jvm.Cond.code ({ cls := "java/util/ImmutableCollections$List12", name := "get", desc := "(I)Ljava/lang/Object;" } : Jvm.MethodName) jdk_44_method_5_code (2 : Nat) (Option.some (Jvm.ClassFile.FieldType.object "java/lang/Object")), Jvm.Cond.code ({ cls := "com/example/wombat/wombat/rules/Descriptor", name := "rateLimit", desc := "()Lcom/example/wombat/wombat/rules/RateLimit;" } : Jvm.MethodName) prog_27_method_9_code (1 : Nat) (Option.some (Jvm.ClassFile.FieldType.object "com/example/wombat/wombat/rules/RateLimit")), Jvm.Cond.code ({ cls := "com/example/wombat/wombat/rules/Limit", name := "rateLimit", desc := "()Lcom/example/wombat/wombat/rules/RateLimit;" } : Jvm.MethodName) prog_28_method_2_code (1 : Nat) (Option.some (Jvm.ClassFile.FieldType.object "com/example/wombat/wombat/rules/RateLimit")), Jvm.Cond.code ({ cls := "com/example/wombat/wombat/rules/RateLimit", name := "requestsPerUnit", desc := "()J" } : Jvm.MethodName) prog_31_method_8_code (1 : Nat) (Option.some Jvm.ClassFile.FieldType.long), Jvm.Cond.code ({ cls := "java/util/ImmutableCollections$List12", name := "<init>", desc := "(Ljava/lang/Object;Ljava/lang/Object;)V" } : Jvm.MethodName) jdk_44_method_2_code (3 : Nat) (Option.none : Option Jvm.ClassFile.FieldType), Jvm.Cond.code ({ cls := "java/util/ImmutableCollections", name := "listFromArray", desc := "([Ljava/lang/Object;)Ljava/util/List;" } : Jvm.MethodName) jdk_56_method_4_code (3 : Nat) (Option.some (Jvm.ClassFile.FieldType.object "java/util/List")), Jvm.Cond.code ({ cls := "java/util/ImmutableCollections$ListN", name := "<init>", desc := "([Ljava/lang/Object;Z)V" } : Jvm.MethodName) jdk_45_method_1_code (3 : Nat) (Option.none : Option Jvm.ClassFile.FieldType), Jvm.Cond.code ({ cls := "java/util/ImmutableCollections$ListN", name := "isEmpty", desc := "()Z" } : Jvm.MethodName) jdk_45_method_2_code (1 : Nat) (Option.some Jvm.ClassFile.FieldType.boolean), Jvm.Cond.code ({ cls := "java/util/ImmutableCollections$ListN", name := "size", desc := "()I" } : Jvm.MethodName) jdk_45_method_3_code (1 : Nat) (Option.some Jvm.ClassFile.FieldType.int), Jvm.Cond.code ({ cls := "java/util/ImmutableCollections$ListN", name := "get", desc := "(I)Ljava/lang/Object;" } : Jvm.MethodName) jdk_45_method_4_code (2 : Nat) (Option.some (Jvm.ClassFile.FieldType.object "java/lang/Object"))]
set_option maxRecDepth 65536 in
theorem codes_eq : words1.filter isCode = codes1 := rfl
theorem w_codes : ∀ c ∈ words1.filter isCode, c.before args0 about1 = true := by
  rw [codes_eq]
  intro c hc
  simp only [codes1, List.mem_cons, List.not_mem_nil, or_false] at hc
  rcases hc with rfl | rfl | rfl | rfl | rfl | rfl | rfl | rfl | rfl | rfl | rfl | rfl | rfl | rfl | rfl | rfl | rfl | rfl | rfl | rfl | rfl | rfl | rfl | rfl | rfl | rfl | rfl | rfl | rfl | rfl | rfl | rfl | rfl | rfl | rfl | rfl | rfl | rfl | rfl | rfl | rfl | rfl
  · exact w_c0
  · exact w_c1
  · exact w_c2
  · exact w_c3
  · exact w_c4
  · exact w_c5
  · exact w_c6
  · exact w_c7
  · exact w_c8
  · exact w_c9
  · exact w_c10
  · exact w_c11
  · exact w_c12
  · exact w_c13
  · exact w_c14
  · exact w_c15
  · exact w_c16
  · exact w_c17
  · exact w_c18
  · exact w_c19
  · exact w_c20
  · exact w_c21
  · exact w_c22
  · exact w_c23
  · exact w_c24
  · exact w_c25
  · exact w_c26
  · exact w_c27
  · exact w_c28
  · exact w_c29
  · exact w_c30
  · exact w_c31
  · exact w_c32
  · exact w_c33
  · exact w_c34
  · exact w_c35
  · exact w_c36
  · exact w_c37
  · exact w_c38
  · exact w_c39
  · exact w_c40
  · exact w_c41
set_option maxRecDepth 65536 in
theorem w_t1 : (words1.take 24).all (fun c => isCode c || c.before args0 about1) = true := by decide +kernel
set_option maxRecDepth 65536 in
theorem w_t2 : ((words1.drop 24).take 24).all (fun c => isCode c || c.before args0 about1) = true := by decide +kernel
set_option maxRecDepth 65536 in
theorem w_t3 : (((words1.drop 24).drop 24).take 24).all (fun c => isCode c || c.before args0 about1) = true := by decide +kernel
set_option maxRecDepth 65536 in
theorem w_t4 : ((((words1.drop 24).drop 24).drop 24).take 24).all (fun c => isCode c || c.before args0 about1) = true := by decide +kernel
set_option maxRecDepth 65536 in
theorem w_t5 : (((((words1.drop 24).drop 24).drop 24).drop 24).take 24).all (fun c => isCode c || c.before args0 about1) = true := by decide +kernel
set_option maxRecDepth 65536 in
theorem w_t6 : ((((((words1.drop 24).drop 24).drop 24).drop 24).drop 24).take 24).all (fun c => isCode c || c.before args0 about1) = true := by decide +kernel
set_option maxRecDepth 65536 in
theorem w_t7 : (((((((words1.drop 24).drop 24).drop 24).drop 24).drop 24).drop 24).take 24).all (fun c => isCode c || c.before args0 about1) = true := by decide +kernel
set_option maxRecDepth 65536 in
theorem w_t8 : ((((((((words1.drop 24).drop 24).drop 24).drop 24).drop 24).drop 24).drop 24).take 24).all (fun c => isCode c || c.before args0 about1) = true := by decide +kernel
set_option maxRecDepth 65536 in
theorem w_t9 : (((((((((words1.drop 24).drop 24).drop 24).drop 24).drop 24).drop 24).drop 24).drop 24).take 24).all (fun c => isCode c || c.before args0 about1) = true := by decide +kernel
set_option maxRecDepth 65536 in
theorem w_t10 : ((((((((((words1.drop 24).drop 24).drop 24).drop 24).drop 24).drop 24).drop 24).drop 24).drop 24).take 24).all (fun c => isCode c || c.before args0 about1) = true := by decide +kernel
set_option maxRecDepth 65536 in
theorem w_t11 : (((((((((((words1.drop 24).drop 24).drop 24).drop 24).drop 24).drop 24).drop 24).drop 24).drop 24).drop 24).take 24).all (fun c => isCode c || c.before args0 about1) = true := by decide +kernel
set_option maxRecDepth 65536 in
theorem w_t12 : ((((((((((((words1.drop 24).drop 24).drop 24).drop 24).drop 24).drop 24).drop 24).drop 24).drop 24).drop 24).drop 24).take 24).all (fun c => isCode c || c.before args0 about1) = true := by decide +kernel
set_option maxRecDepth 65536 in
theorem w_t13 : ((((((((((((words1.drop 24).drop 24).drop 24).drop 24).drop 24).drop 24).drop 24).drop 24).drop 24).drop 24).drop 24).drop 24).all (fun c => isCode c || c.before args0 about1) = true := by decide +kernel
theorem w_tables : (allAtoms (Jvm.Cond.code x code maxLocals ret :: tables_1)).before args0 about1 = true := by
  rw [allAtoms_all]
  show words1.all (fun c => c.before args0 about1) = true
  refine all_split ?_ w_codes
  rw [← List.take_append_drop 24 words1, List.all_append, w_t1, ← List.take_append_drop 24 (words1.drop 24), List.all_append, w_t2, ← List.take_append_drop 24 ((words1.drop 24).drop 24), List.all_append, w_t3, ← List.take_append_drop 24 (((words1.drop 24).drop 24).drop 24), List.all_append, w_t4, ← List.take_append_drop 24 ((((words1.drop 24).drop 24).drop 24).drop 24), List.all_append, w_t5, ← List.take_append_drop 24 (((((words1.drop 24).drop 24).drop 24).drop 24).drop 24), List.all_append, w_t6, ← List.take_append_drop 24 ((((((words1.drop 24).drop 24).drop 24).drop 24).drop 24).drop 24), List.all_append, w_t7, ← List.take_append_drop 24 (((((((words1.drop 24).drop 24).drop 24).drop 24).drop 24).drop 24).drop 24), List.all_append, w_t8, ← List.take_append_drop 24 ((((((((words1.drop 24).drop 24).drop 24).drop 24).drop 24).drop 24).drop 24).drop 24), List.all_append, w_t9, ← List.take_append_drop 24 (((((((((words1.drop 24).drop 24).drop 24).drop 24).drop 24).drop 24).drop 24).drop 24).drop 24), List.all_append, w_t10, ← List.take_append_drop 24 ((((((((((words1.drop 24).drop 24).drop 24).drop 24).drop 24).drop 24).drop 24).drop 24).drop 24).drop 24), List.all_append, w_t11, ← List.take_append_drop 24 (((((((((((words1.drop 24).drop 24).drop 24).drop 24).drop 24).drop 24).drop 24).drop 24).drop 24).drop 24).drop 24), List.all_append, w_t12, w_t13]
  rfl
set_option maxRecDepth 65536 in
theorem w_rest : rest_1_c.before args0 about1 = true := by decide +kernel
set_option maxRecDepth 65536 in
theorem w_case : (Jvm.Cond.and given_1 narrow_1).before args0 about1 = true := by decide +kernel
theorem w_applies : (headSpec (Jvm.Cond.code x code maxLocals ret :: tables_1) room_1).applies x e0.platform about1 = true :=
  (Spec.applies_iff w_frames).mpr ⟨w_running, w_runnable, w_alone, w_named, w_hears, w_ripe, w_room, w_tables⟩
theorem atStart : AtStart classFile x code maxLocals ret World_1 tables_1 room_1 Calls_1 rest_1 Pre_1 launch0 p0 e0 about1 theMethod args0 below0 :=
  ⟨lists_1, trivial, launch0.admits_env _ _ _, launch0.least_env, fairChoices_fair.cas, fairChoices_fair.clock, w_frames, w_args, w_heap, w_applies, ⟨⟨39, k39, 4, by decide +kernel, rfl, rfl, _, rfl, rfl⟩, trivial⟩, w_rest, w_case⟩
end start1
theorem witness_1 : WitnessClaimed_1 := ⟨start1.p0, start1.e0, start1.about1, start1.theMethod, start1.args0, start1.below0, start1.atStart⟩
end Jvm.Pilot.@@N@@
