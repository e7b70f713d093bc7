import JvmDerived
import JvmDerived.Pilot.@@N@@Statement
import JvmDerived.Pilot.@@N@@Code
set_option linter.unusedVariables false
set_option linter.unusedSimpArgs false
namespace Jvm.Pilot.@@N@@
open Jvm Jvm.ClassFile Sem Op Lib Jvm.Free Jvm.Stand Jvm.LawKit Jvm.RoadKit Bundle Jvm.Pilot.@@N@@.Jvm.D
/-! own: the walk by continuation -/
def Go (p : Program) (e : Env) (below : List Frame) (A : State) (G : Outcome → State → Prop) : Prop :=
  ∃ s₂ o, Steps p.tables e below A s₂ ∧ s₂.status = .running ∧ Ended s₂ below o ∧ G o s₂
section Own
variable {p : Program} {l : Launch} {e : Env} {R : Room} {s : State} {m : MethodId} {args : Array Value} {below : List Frame} {meth : Method} {c : Code} {T : State} {locs : List Loc} {cells slots : Nat} {G : Outcome → State → Prop} {A B : State}
theorem go_of (h : ∀ t, Steps p.tables e below B t → Steps p.tables e below A t) (k : Go p e below B G) : Go p e below A G := by
  obtain ⟨s₂, o, h1, h2⟩ := k; exact ⟨s₂, o, h _ h1, h2⟩
theorem go_tr (h : Steps p.tables e below A B) (k : Go p e below B G) : Go p e below A G := go_of (fun _ q => h.trans q) k
theorem go_end (X : Stand p l e R s m args below meth c T locs cells slots) {v : Option Value} (hv : meth.sig.returnType = none → v = none) (hlocks : meth.locks = false) {C S : Nat} (hc : cells ≤ C) (hs : slots ≤ S)
    {Q : Option Value → Heap → List Loc → Prop} (hQ : Q v T.heap locs) {f : JFrame}
    (st : ∀ fs, (∀ (f : JFrame) (acts : List Action), f.method = m → f.locked = none → f.entered = [] → (doReturn e (T.setTop f) acts v).1 = T.setFrames fs) → Steps p.tables e below (T.setTop f) (T.setFrames fs)) :
    Go p e below (T.setTop f) (fun o U' => ∃ v L, o = .returned v ∧ Q v U'.heap L ∧ FrameEnd s o U' L C S) := by
  obtain ⟨fs, hr, hrun, hended, hW, hsame⟩ := X.leave (v := v) hv hlocks
  exact ⟨_, _, st fs hr, hrun, hended, _, _, rfl, hQ, ⟨_, rfl⟩, hW, hsame.mono hc hs⟩
theorem go_endW {vm : Vm} (X : Stand p l e R (s.setVm vm) m args below meth c T locs cells slots) {k : Nat} (hS : s.Since vm k) (hk : k ≤ T.heap.size) {v : Option Value} (hv : meth.sig.returnType = none → v = none) (hlocks : meth.locks = false) {C S : Nat} (hc : cells ≤ C) (hs : slots ≤ S)
    {Q : Option Value → Heap → List Loc → Prop} (hQ : Q v T.heap locs) {f : JFrame}
    (st : ∀ fs, (∀ (f : JFrame) (acts : List Action), f.method = m → f.locked = none → f.entered = [] → (doReturn e (T.setTop f) acts v).1 = T.setFrames fs) → Steps p.tables e below (T.setTop f) (T.setFrames fs)) :
    Go p e below (T.setTop f) (fun o U' => ∃ v L, o = .returned v ∧ Q v U'.heap L ∧ ReturnedEndW s o U' L C S) := by
  obtain ⟨fs, hr, hrun, hended, e1, e2, e3, e4⟩ := X.leaveW hS hk (v := v) hv hlocks
  exact ⟨_, _, st fs hr, hrun, hended, _, _, rfl, hQ, e1, e2, e3, e4.mono hc hs⟩
theorem go_endH {Z : State} {a0 : Array Value} {EL : List (String × Nat)} {vm : Vm} {h0 h1 : Heap} (X : Stand p l e R (s.setVm vm) m args below meth c T locs cells slots) (hZ : Z.Warmed39 vm) (hEL : EW Z a0 EL) (HC : CHr Z EL s.vm h0 vm h1) (hh : s.heap = h0) (eT : T.heap = h1) {k : Nat} (hS : s.Since vm k) (hk : k ≤ T.heap.size) {v : Option Value} (hv : meth.sig.returnType = none → v = none) (hlocks : meth.locks = false) {C S : Nat} (hc : cells ≤ C) (hs : slots ≤ S)
    {Q : Option Value → Heap → List Loc → Prop} (hQ : Q v T.heap locs) {f : JFrame}
    (st : ∀ fs, (∀ (f : JFrame) (acts : List Action), f.method = m → f.locked = none → f.entered = [] → (doReturn e (T.setTop f) acts v).1 = T.setFrames fs) → Steps p.tables e below (T.setTop f) (T.setFrames fs)) :
    Go p e below (T.setTop f) (fun o U' => ∃ v L, o = .returned v ∧ Q v U'.heap L ∧ CHr Z EL s.vm s.heap U'.vm U'.heap ∧ ReturnedEndW s o U' L C S) := by
  obtain ⟨fs, hr, hrun, hended, e1, e2, e3, e4⟩ := X.leaveW hS hk (v := v) hv hlocks
  refine ⟨_, _, st fs hr, hrun, hended, _, _, rfl, hQ, ?_, e1, e2, e3, e4.mono hc hs⟩
  subst hh eT
  have q := HC.trans (CHv.at X hZ hEL HC.1)
  exact q
theorem own_retI (X : Stand p l e R s m args below meth c T locs cells slots) (hx : p.tables.exec = Jvm.exec) {pc : Nat} {Ls : Array Slot} {z : Int32} {rest : List Value} (hret : meth.sig.returnType = some .int) (hd : decode c.code pc = .ok (.ireturn, 1)) {fs : List Frame}
    (hl : ∀ (f : JFrame) (acts : List Action), f.method = m → f.locked = none → f.entered = [] → (doReturn e (T.setTop f) acts (some (.int z))).1 = T.setFrames fs) : Steps p.tables e below (T.setTop (mkF m pc Ls (.int z :: rest))) (T.setFrames fs) :=
  retOut X hx hret rfl (Or.inl ⟨rfl, Or.inl rfl, _, rfl⟩) hd hl
theorem own_retL (X : Stand p l e R s m args below meth c T locs cells slots) (hx : p.tables.exec = Jvm.exec) {pc : Nat} {Ls : Array Slot} {z : Int64} {rest : List Value} (hret : meth.sig.returnType = some .long) (hd : decode c.code pc = .ok (.lreturn, 1)) {fs : List Frame}
    (hl : ∀ (f : JFrame) (acts : List Action), f.method = m → f.locked = none → f.entered = [] → (doReturn e (T.setTop f) acts (some (.long z))).1 = T.setFrames fs) : Steps p.tables e below (T.setTop (mkF m pc Ls (.long z :: rest))) (T.setFrames fs) :=
  retOut X hx hret rfl (Or.inr (Or.inl ⟨rfl, rfl, _, rfl⟩)) hd hl
theorem own_retA (X : Stand p l e R s m args below meth c T locs cells slots) (hx : p.tables.exec = Jvm.exec) {pc : Nat} {Ls : Array Slot} {w : Value} {t : FieldType} {rest : List Value} (hret : meth.sig.returnType = some t) (ht : t.isReference = true) (hw : w.isRef = true) (hd : decode c.code pc = .ok (.areturn, 1)) {fs : List Frame}
    (hl : ∀ (f : JFrame) (acts : List Action), f.method = m → f.locked = none → f.entered = [] → (doReturn e (T.setTop f) acts (some w)).1 = T.setFrames fs) : Steps p.tables e below (T.setTop (mkF m pc Ls (w :: rest))) (T.setFrames fs) :=
  retOut X hx hret (by cases t <;> first | rfl | (cases ht; done)) (Or.inr (Or.inr (Or.inr (Or.inr ⟨rfl, ht, hw⟩)))) hd hl
theorem own_fldI {t : Term} {C n d : String} {k : Int32} {a : Addr} (ev : t.eval args s none [] s = some (.ref a)) (h : (Jvm.Cond.eq (.field t C n d) (.int k)).value args s none s [] = some true) : Fld s s.heap a C n d (.int k) := by
  obtain ⟨x, y, h1, h2, -, kyx⟩ := cmp_v (Or.inl h)
  have e2 : y = .int k := (Option.some.inj (h2.symm.trans (Term.int_eval k)))
  subst e2
  obtain ⟨z, rfl⟩ := kyx
  have hz : z = k := by simpa [Cond.value, h1, Term.int_eval] using h
  subst hz
  rw [fld_at ev] at h1
  exact Fld.start h1
theorem own_tsw (X : Stand p l e R s m args below meth c T locs cells slots) (hexec : p.tables.exec = Jvm.exec) {g : JFrame} (hg : g.method = m) {k : Int32} {rest : List Value} (hstack : g.stack = .int k :: rest) {default low high : Int} {offsets : Array Int} {len pc0 pc' : Nat} (hpc : g.pc = pc0)
    (hdg : decode c.code g.pc = .ok (.tableswitch default low high offsets, len)) (ki : Int) (hk : k.toInt = ki) (hin : ¬ (ki < low ∨ ki > high)) (off : Int) (hoffs : offsets[(ki - low).toNat]? = some off) (hoff : 0 ≤ (pc0 : Int) + off) (hp : ((pc0 : Int) + off).toNat = pc') {target : State}
    (hr : Steps p.tables e below (T.setTop { g with pc := pc', stack := rest }) target) : Steps p.tables e below (T.setTop g) target := by
  subst hpc hk hp; exact X.tableswitchIn hexec hg hstack hdg hin hoffs hoff target hr
theorem own_ne {a b : Addr} (h : @Ne Nat a b) : a ≠ b := h
theorem own_lt {a b : Nat} (h : @LT.lt Nat instLTNat a b) : @LT.lt Nat instLTNat a b := h
theorem own_le {a b : Nat} (h : @LE.le Nat instLENat a b) : @LE.le Nat instLENat a b := h
theorem own_nlt {a : Addr} {n : Nat} (h : a < n) : @LT.lt Nat instLTNat a n := h
theorem own_nle {a : Nat} {b : Addr} (h : a ≤ b) : @LE.le Nat instLENat a b := h
theorem own_inskeep {Z : State} {h h' : Heap} {a : Addr} {C : String} {ws : List Addr} (F : Ins Z h a C true) (K : Keep h h' ws) : Ins Z h' a C true := by
  obtain ⟨cell, cT, h1, h2, h3⟩ := F; obtain ⟨c', q, r1, r2, -⟩ := K.2.2 a cell h1; exact ⟨c', cT, q, h2, by rw [r1, r2]; exact h3⟩
theorem own_inslt {Z : State} {h : Heap} {a : Addr} {C : String} {b : Bool} (F : Ins Z h a C b) : a < h.size := by obtain ⟨_, _, h1, -⟩ := F; exact (Array.getElem?_eq_some_iff.mp h1).1
theorem own_kx {h h' : Heap} (K : Keep h h' []) : Ext h h' := ⟨K.1, fun a c q => K.2.1 a c q nin0⟩
theorem own_cache {t : Term} {C : String} {q : Jvm.Cond} {cl : Cell} {a : Addr} {ty : FieldType} (ev : ∀ idx, t.eval args s none idx s = some (.ref a)) (Ar : Arr s s.heap a cl ty)
    (h : (Jvm.Cond.all t (.and (.exactly (.elem t (.index 0)) C) q)).value args s none s [] = some true) (hz : cl.slots.size = 256) : ∀ i, i < 256 → ∃ w, cl.slots[i]? = some (.ref w) ∧ Exa s s.heap w C := fun i hi => by
  have hat : s.arrayAt? a = some cl := Arr.fin (Vm.Alike.refl _) Ar
  have hv := Cond.all_elim (ev []) hat h i (by rw [hz]; exact hi)
  obtain ⟨h1, -⟩ := and_e hv
  obtain ⟨w, ew⟩ := exa_v h1
  have ex := exa_at ew h1
  obtain ⟨p1, p2⟩ := IntBox.place_nonneg i hi
  rw [elem_f (ev [i]) (j := i.toInt32) rfl hat p1, p2] at ew
  exact ⟨w, ew, ex⟩
theorem own_stev {C n d : String} {v : Value} (h : (Term.static C n d).eval args s none [] s = some v) (idx : List Nat) : (Term.static C n d).eval args s none idx s = some v := h
theorem own_len {t : Term} {a : Addr} {cl : Cell} {ty : FieldType} {k : Int32} (ev : t.eval args s none [] s = some (.ref a)) (Ar : Arr s s.heap a cl ty) (h : (Jvm.Cond.eq (.length t) (.int k)).value args s none s [] = some true) (hk : ¬ k < 0) : cl.slots.size = k.toNatClampNeg := by
  have hat : s.arrayAt? a = some cl := Arr.fin (Vm.Alike.refl _) Ar
  obtain ⟨x, y, h1, h2, -, kyx⟩ := cmp_v (Or.inl h)
  have e2 : y = .int k := (Option.some.inj (h2.symm.trans (Term.int_eval k)))
  subst e2
  obtain ⟨z, rfl⟩ := kyx
  have hz : z = k := by simpa [Cond.value, h1, Term.int_eval] using h
  subst hz
  have hl : cl.slots.size < 2 ^ 31 := by
    by_cases q : cl.slots.size < 2 ^ 31
    · exact q
    · simp [Term.eval, ev, hat, q] at h1
  rw [len_f ev hat hl] at h1
  have h3 : cl.slots.size.toInt32 = z := by simpa using h1
  rw [← h3]
  have h4 := len_toInt hl
  simp only [Int32.toNatClampNeg, h4]; rfl
end Own
theorem own_wS {a0 : Array Value} {Z : State} (hw : ∀ d ∈ tables_1, d.before a0 Z = true) : ∀ a ∈ Bundle.stringAtoms, a.before a0 Z = true := by
  intro a ha
  simp only [Bundle.stringAtoms, List.mem_cons, List.not_mem_nil, or_false] at ha
  rcases ha with rfl | rfl | rfl | rfl | rfl | rfl | rfl
  · exact hw _ (List.mem_of_getElem? (i := 12) rfl)
  · exact hw _ (List.mem_of_getElem? (i := 11) rfl)
  · exact hw _ (List.mem_of_getElem? (i := 25) rfl)
  · exact hw _ (List.mem_of_getElem? (i := 26) rfl)
  · exact hw _ (List.mem_of_getElem? (i := 27) rfl)
  · exact hw _ (List.mem_of_getElem? (i := 28) rfl)
  · exact hw _ (List.mem_of_getElem? (i := 29) rfl)
theorem own_fI {a0 : Array Value} {Z : State} {K : String} {n : Nat} (w : (Cond.instantiable K n).before a0 Z = true) : ∃ t k, Z.vm.findClass K = some t ∧ Z.vm.classes[t]? = some k ∧ k.kind = .ordinary ∧ k.isInterface = false := by
  obtain ⟨c, k, h1, h2, h3, h4, -⟩ := Cond.instantiable_spec w
  exact ⟨c, k, h1, h2, h3, by cases q : k.isInterface <;> simp_all⟩
theorem own_nsroot {a0 : Array Value} {Z : State} {O K : String} {n : Nat} (w : (Cond.noSuperclass O).before a0 Z = true) (wk : (Cond.instantiable K n).before a0 Z = true) (hn : O ≠ K) : NS Z O K := by
  obtain ⟨c, k, h1, h2, h3, -, -⟩ := Cond.noSuperclass_spec w
  obtain ⟨t, kt, g1, -⟩ := own_fI wk
  have ne := ids_ne h1 g1 hn
  refine ⟨c, t, h1, g1, fun fuel => ?_⟩
  cases fuel with
  | zero => rfl
  | succ f => simp [Vm.isSubclassAux, ne, h2, h3]
theorem own_nsno {a0 : Array Value} {Z : State} {C S K : String} {n : Nat} (w : (Cond.superclass C S).before a0 Z = true) (wk : (Cond.instantiable K n).before a0 Z = true) (nn : NS Z C K) (hn : C ≠ K) : ∃ c t, Z.vm.findClass C = some c ∧ Z.vm.findClass K = some t ∧ Z.vm.assignable c t = false := by
  obtain ⟨c, t, h0, g0, n3⟩ := nn
  obtain ⟨p, k, kp, h1, h2, h3, h4, h5, -, h7⟩ := Cond.superclass_spec h0 w
  obtain ⟨t', k', g1, g2, g5, g7⟩ := own_fI wk
  cases g0.symm.trans g1
  have ne := ids_ne h0 g0 hn
  refine ⟨c, t, h0, g0, ?_⟩
  show Z.vm.assignableAux (255 + 1) c t = false
  simp [Vm.assignableAux, ne, h2, g2, h5, g5, g7, Vm.isSubclass, n3]

theorem own_safe_null {Z : State} {EL : List (String × Nat)} {vm : Vm} {h : Heap} {x : Addr} (hal : Z.vm.Alike vm) (E : Exa Z h x "java/lang/String") (F : Fld Z h x "java/lang/String" "value" "[B" .null) : Safe Z EL vm h x := fun B => by
  obtain ⟨p, -, u, a, -, q, -, G, rfl | rfl⟩ := B
  · obtain ⟨cS, ⟨⟨s1, s2, s3, ⟨cv, kv, iv, s4, s4'⟩, ⟨cc, kc, ic, s5, s5'⟩, s6, s7, s8, -⟩, hfS, hcS⟩, -⟩ := G
    obtain ⟨cell, cf, k, i, f, f1, f2, f3, f4, f5, f6, f7⟩ := F
    obtain ⟨kv', z4⟩ := ff_back (U := Wst Z vm h) hal s4
    cases (show h[q.sa]? = some q.sC from s1).symm.trans f1
    cases z4.symm.trans f2
    cases s8.symm.trans f7
  · obtain ⟨cell, k, e1, e2, e3, -, -⟩ := E
    cases (show h[q.sd]? = some q.SA from G.hd).symm.trans e1
    obtain ⟨cS, -, -, f, -⟩ := G
    have f' : vm.findClass "[B" = some q.SA.cls := f
    rw [hal.findClass] at f'
    exact ids_ne f' e2 (by decide) rfl
theorem own_safe_arv {Z : State} {EL : List (String × Nat)} {vm : Vm} {h : Heap} {x : Addr} {k : ClassId} {ty : FieldType} {n : Int32} {vs : List Value} {d : Value} (hal : Z.vm.Alike vm) (A : Arv Z h x k ty n vs d) (ht : ty ≠ .byte) : Safe Z EL vm h x := by
  obtain ⟨cl, Ar, -⟩ := A; exact Safe.arr hal Ar ht
/-- an ordinary object that is no String -/
def Ord (Z : State) (h : Heap) (o : Addr) : Prop := ∃ (cell : Cell) (k : Class), h[o]? = some cell ∧ Z.vm.classes[cell.cls]? = some k ∧ k.kind = .ordinary ∧ Z.vm.findClass "java/lang/String" ≠ some cell.cls
theorem Ord.of {Z : State} {h : Heap} {o : Addr} {a0 : Array Value} {C : String} {n : Nat} (E : Exa Z h o C) (w : (Cond.instantiable C n).before a0 Z = true) (hn : C ≠ "java/lang/String") : Ord Z h o := by
  obtain ⟨cell, k, e1, e2, e3, -, -⟩ := E
  obtain ⟨t, k', f1, f2, f3, -⟩ := own_fI w
  cases e2.symm.trans f1
  cases e3.symm.trans f2
  exact ⟨cell, k, e1, e3, f3, fun q => ids_ne e2 q hn rfl⟩
theorem Ord.ne {Z : State} {h : Heap} {o t : Addr} {k : ClassId} {ty : FieldType} {n : Int32} {vs : List Value} {d : Value} (F : Ord Z h o) (A : Arv Z h t k ty n vs d) : t ≠ o := fun e => by
  subst e
  obtain ⟨cell, kk, f1, f2, f3, -⟩ := F
  obtain ⟨c, ⟨a1, ⟨-, k2, a2, comp, a3⟩, -⟩, -⟩ := A
  cases f1.symm.trans a1
  cases f2.symm.trans a2
  rw [f3] at a3; cases a3
theorem Ord.ne' {Z : State} {h : Heap} {o a : Addr} (F : Ord Z h o) (E : Exa Z h a "java/lang/String") : a ≠ o := fun e => by
  subst e
  obtain ⟨cell, kk, f1, f2, f3, f4⟩ := F
  obtain ⟨c, k, e1, e2, -⟩ := E
  cases f1.symm.trans e1
  exact f4 e2

def own_EL : List (String × Nat) := [("java/lang/String", 7)]
theorem own_EW {a0 : Array Value} {Z : State} (hw : ∀ d ∈ tables_1, d.before a0 Z = true) : EW Z a0 own_EL := EW.cons (hw _ (List.mem_of_getElem? (i := 24) rfl)) (by decide) EW.nil
abbrev own_b8 (c : Int32) : Int32 := c.toInt8.toInt32
theorem own_bb (c : Int32) : c.toInt8.toInt32.toInt8.toInt32 = c.toInt8.toInt32 := by simp
/-- a String of Latin-1 chars -/
def Str (Z : State) (h : Heap) (a : Addr) (n : Int32) (cs : List Int32) : Prop := ∃ (t : Addr) (k : ClassId), Exa Z h a "java/lang/String" ∧ Fld Z h a "java/lang/String" "coder" "B" (.int 0) ∧ Fld Z h a "java/lang/String" "value" "[B" (.ref t) ∧ Arv Z h t k .byte n (cs.map fun c => .int (own_b8 c)) (.int 0) ∧ (∀ c ∈ cs, ¬ c < 0 ∧ ¬ (255 : Int32) < c)
theorem Str.ext {Z : State} {h h' : Heap} {a : Addr} {n : Int32} {cs : List Int32} (F : Str Z h a n cs) (E : Ext h h') : Str Z h' a n cs := by
  obtain ⟨t, k, f1, f2, f3, f4, f5⟩ := F; exact ⟨t, k, f1.ext E, f2.ext E, f3.ext E, f4.ext E, f5⟩
theorem Str.lt {Z : State} {h : Heap} {a : Addr} {n : Int32} {cs : List Int32} (F : Str Z h a n cs) : a < h.size := by obtain ⟨t, k, f1, -⟩ := F; exact f1.lt
theorem Str.exa {Z : State} {h : Heap} {a : Addr} {n : Int32} {cs : List Int32} (F : Str Z h a n cs) : Exa Z h a "java/lang/String" := by obtain ⟨t, k, f1, -⟩ := F; exact f1
theorem own_allc {P : Int32 → Prop} {c : Int32} {cs : List Int32} (h : P c) (r : ∀ x ∈ cs, P x) : ∀ x ∈ c :: cs, P x := fun x q => (List.mem_cons.mp q).elim (fun e => e ▸ h) (r x)
theorem own_narc {c : Int32} (h : ¬ c < 0 ∧ ¬ (255 : Int32) < c) : nar .char c = c := by
  have h1 := c_i2c c
  apply Int32.toInt_inj.mp
  have e0 : (0 : Int32).toInt = 0 := rfl
  have e1 : (255 : Int32).toInt = 255 := rfl
  have h2 := h.1; have h3 := h.2
  rw [Int32.lt_iff_toInt_lt] at h2 h3
  show c.toUInt32.toUInt16.toUInt32.toInt32.toInt = c.toInt
  omega
theorem own_b255 {c : Int32} (h : ¬ c < 0 ∧ ¬ (255 : Int32) < c) : (own_b8 c &&& (255 : Int32)).toUInt32.toUInt16.toUInt32.toInt32 = c := by
  have h1 := c_i2b c
  have h4 : (own_b8 c &&& (255 : Int32)).toInt = (own_b8 c).toInt % 256 := c_mask (own_b8 c) 255 8 (by decide) (by decide)
  have h5 := c_i2c (own_b8 c &&& (255 : Int32))
  apply Int32.toInt_inj.mp
  have e0 : (0 : Int32).toInt = 0 := rfl
  have e1 : (255 : Int32).toInt = 255 := rfl
  have h2 := h.1; have h3 := h.2
  rw [Int32.lt_iff_toInt_lt] at h2 h3
  have e8 : (own_b8 c).toInt = c.toInt8.toInt32.toInt := rfl
  omega
theorem own_b8inj {c d : Int32} (h : ¬ c < 0 ∧ ¬ (255 : Int32) < c) (h' : ¬ d < 0 ∧ ¬ (255 : Int32) < d) (e : own_b8 c = own_b8 d) : c = d := by
  rw [← own_b255 h, ← own_b255 h', e]

theorem Str.keep {Z : State} {h h' : Heap} {a : Addr} {ws : List Addr} {n : Int32} {cs : List Int32} (F : Str Z h a n cs) (K : Keep h h' ws) (q : ∀ o ∈ ws, Ord Z h o) : Str Z h' a n cs := by
  obtain ⟨t, k, f1, f2, f3, f4, f5⟩ := F
  have na : a ∉ ws := fun m => (q a m).ne' f1 rfl
  have nt : t ∉ ws := fun m => (q t m).ne f4 rfl
  exact ⟨t, k, f1.keep K, f2.keep K na, f3.keep K na, f4.keep K nt, f5⟩

def own_eqv (cs ds : List Int32) : Int32 := if cs = ds then 1 else 0
theorem own_eqv0 (cs ds : List Int32) : own_eqv cs ds = 0 ↔ ¬ cs = ds := by unfold own_eqv; by_cases h : cs = ds <;> simp [h]
theorem own_eqmap : ∀ (cs ds : List Int32), (∀ c ∈ cs, ¬ c < 0 ∧ ¬ (255 : Int32) < c) → (∀ c ∈ ds, ¬ c < 0 ∧ ¬ (255 : Int32) < c) → (cs.map own_b8 = ds.map own_b8 ↔ cs = ds)
  | [], [], _, _ => by simp
  | [], _ :: _, _, _ => by simp
  | _ :: _, [], _, _ => by simp
  | c :: cs, d :: ds, h, h' => by
    have ih := own_eqmap cs ds (fun x q => h x (List.mem_cons_of_mem _ q)) (fun x q => h' x (List.mem_cons_of_mem _ q))
    simp only [List.map_cons, List.cons.injEq, ih]
    constructor
    · rintro ⟨e, r⟩; exact ⟨own_b8inj (h c (List.mem_cons_self ..)) (h' d (List.mem_cons_self ..)) e, r⟩
    · rintro ⟨rfl, r⟩; exact ⟨rfl, r⟩

def StrL (Z : State) (h : Heap) (a : Addr) : List Int32 → Prop
  | [] => Str Z h a 0 []
  | [c0] => Str Z h a 1 [c0]
  | [c0, c1] => Str Z h a 2 [c0, c1]
  | _ => False
theorem StrL.ext' {Z : State} {h h' : Heap} {a : Addr} (E : Ext h h') : ∀ {cs : List Int32}, StrL Z h a cs → StrL Z h' a cs
  | [], F => Str.ext F E
  | [c0], F => Str.ext F E
  | [c0, c1], F => Str.ext F E
  | _ :: _ :: _ :: _, F => F.elim
theorem StrL.keep' {Z : State} {h h' : Heap} {a : Addr} {ws : List Addr} (K : Keep h h' ws) (q : ∀ o ∈ ws, Ord Z h o) : ∀ {cs : List Int32}, StrL Z h a cs → StrL Z h' a cs
  | [], F => Str.keep F K q
  | [c0], F => Str.keep F K q
  | [c0, c1], F => Str.keep F K q
  | _ :: _ :: _ :: _, F => F.elim
theorem StrL.exa' {Z : State} {h : Heap} {a : Addr} : ∀ {cs : List Int32}, StrL Z h a cs → Exa Z h a "java/lang/String"
  | [], F => Str.exa F
  | [c0], F => Str.exa F
  | [c0, c1], F => Str.exa F
  | _ :: _ :: _ :: _, F => F.elim
theorem StrL.keep {Z : State} {h h' : Heap} {a : Addr} {ws : List Addr} {cs : List Int32} (F : StrL Z h a cs) (K : Keep h h' ws) (q : ∀ o ∈ ws, Ord Z h o) : StrL Z h' a cs := StrL.keep' K q F
theorem StrL.exa {Z : State} {h : Heap} {a : Addr} {cs : List Int32} (F : StrL Z h a cs) : Exa Z h a "java/lang/String" := StrL.exa' F
theorem StrL.ext {Z : State} {h h' : Heap} {a : Addr} {cs : List Int32} (F : StrL Z h a cs) (E : Ext h h') : StrL Z h' a cs := StrL.ext' E F
theorem d11_0 : decode jdk_43_method_13_code 0 = .ok (.aload_n 0, 1) := by decide +kernel
theorem d11_1 : decode jdk_43_method_13_code 1 = .ok (.arraylength, 1) := by decide +kernel
theorem d11_2 : decode jdk_43_method_13_code 2 = .ok (.aload_n 1, 1) := by decide +kernel
theorem d11_3 : decode jdk_43_method_13_code 3 = .ok (.arraylength, 1) := by decide +kernel
theorem d11_4 : decode jdk_43_method_13_code 4 = .ok (.if_icmp .ne 30, 3) := by decide +kernel
theorem d11_7 : decode jdk_43_method_13_code 7 = .ok (.iconst 0, 1) := by decide +kernel
theorem d11_8 : decode jdk_43_method_13_code 8 = .ok (.istore_n 2, 1) := by decide +kernel
theorem d11_9 : decode jdk_43_method_13_code 9 = .ok (.iload_n 2, 1) := by decide +kernel
theorem d11_10 : decode jdk_43_method_13_code 10 = .ok (.aload_n 0, 1) := by decide +kernel
theorem d11_11 : decode jdk_43_method_13_code 11 = .ok (.arraylength, 1) := by decide +kernel
theorem d11_12 : decode jdk_43_method_13_code 12 = .ok (.if_icmp .ge 20, 3) := by decide +kernel
theorem d11_32 : decode jdk_43_method_13_code 32 = .ok (.iconst 1, 1) := by decide +kernel
theorem d11_33 : decode jdk_43_method_13_code 33 = .ok (.ireturn, 1) := by decide +kernel
def Q_str_lat_0_0 (Z : State) (t : Addr) (tt : Addr) (k : ClassId) (kk : ClassId) (h0 : Heap) (n0 : Nat) (v : Option Value) (h : Heap) (L : List Loc) : Prop := v = some (.int (own_eqv [] [])) ∧ Fr n0 L ∧ h = h0
theorem pn_java_lang_StringLatin1 : plainName "java/lang/StringLatin1" = true := by first | (simp [plainName, overriddenIn]; done) | decide +kernel
theorem ef_str_lat_0_0 (m : MethodId) (t : Addr) (tt : Addr)  : entryFrame m #[(.ref t), (.ref tt)] 3 = mkF m 0 #[.val (.ref t), .val (.ref tt), .unset] [] := by first | (simp [entryFrame, mkF, argsToLocals, Value.category]; done) | rfl
set_option maxRecDepth 65536 in
set_option maxHeartbeats 40000000 in
theorem str_lat_0_0 (l : Launch) (Z : State) (a0 : Array Value) (hw : ∀ d ∈ tables_1, d.before a0 Z = true) (ws : List Jvm.Cond) (t : Addr) (tt : Addr) (k : ClassId) (kk : ClassId) (h0 : Heap) (n0 : Nat) (Z0 : n0 ≤ h0.size) (Vt : Arv Z h0 t k .byte 0 [] (.int 0)) (Vtt : Arv Z h0 tt kk .byte 0 [] (.int 0)) :
    MetFree l (⟨"java/lang/StringLatin1", "equals", "([B[B)Z"⟩ : MethodName) (head1 (Jvm.Cond.code (⟨"java/lang/StringLatin1", "equals", "([B[B)Z"⟩ : MethodName) jdk_43_method_13_code 3 (some .boolean) :: ws) ({ frames := 0, cells := 0, slots := 0, locals := 0 } : Room)) (fun aa' U1' => aa' = #[(.ref t), (.ref tt)] ∧ Z.Warmed39 U1'.vm ∧ U1'.heap = h0) (fun _ _ _ _ _ => True) (fun _ U1' oo' U2' => ∃ vv' LL', oo' = .returned vv' ∧ (Q_str_lat_0_0 Z t tt k kk h0 n0) vv' U2'.heap LL' ∧ FrameEnd U1' oo' U2' LL' ({ frames := 0, cells := 0, slots := 0, locals := 0 } : Room).cells ({ frames := 0, cells := 0, slots := 0, locals := 0 } : Room).slots) := by
  refine MetFree.of_bodySF (plainFor_of_name pn_java_lang_StringLatin1) hisR ?_
  intro p e s m args below meth c s₁ Bd hml0 hP hK
  obtain ⟨rfl, hZ, hh⟩ := hP
  have hx := Bd.exec
  have hby := Bd.bytes
  have hml : c.maxLocals = 3 := hml0
  have hown : s.vm.findClass "java/lang/StringLatin1" = some m.cls := findClass_of_methodNamed Bd.named
  have hnm := (name_of_methodNamed Bd.named Bd.method).1
  have X0 : Stand p l e ({ frames := 0, cells := 0, slots := 0, locals := 0 } : Room) s m #[(.ref t), (.ref tt)] below meth c s₁ [] 0 0 := Stand.of_body Bd
  have e0 : s₁.heap = h0 := by rw [← hh, Bd.state]; rfl
  have N0 := Fr.nil n0
  refine go_of (A := s₁.setTop (entryFrame m #[(.ref t), (.ref tt)] 3)) (B := s₁.setTop (mkF m 0 #[.val (.ref t), .val (.ref tt), .unset] [])) (fun _ kk' => castTop (ef_str_lat_0_0 m t tt) kk') ?_
  refine go_of (B := (s₁.setTop (mkF m 1 #[.val (.ref t), .val (.ref tt), .unset] [(.ref t)]))) (fun _ kk => XS.aloadN X0.here hx rfl (hb hby d11_0) rfl rfl kk) ?_
  obtain ⟨cl1, Ar1, q1, Sz1, Nn1, Hh1, G1⟩ := id (Vt)
  have ln1 := len_of Sz1 Nn1
  refine go_of (B := (s₁.setTop (mkF m 2 #[.val (.ref t), .val (.ref tt), .unset] [(.int (0 : Int32))]))) (fun _ kk => X0.arraylength hx (by rw [e0]; exact Ar1.1) (State.isArrayOf_alike hZ.alike Ar1.2.1) (g := (mkF m 1 #[.val (.ref t), .val (.ref tt), .unset] [(.ref t)])) rfl rfl (hb hby d11_1) _ (by rw [ln1]; exact kk)) ?_
  refine go_of (B := (s₁.setTop (mkF m 3 #[.val (.ref t), .val (.ref tt), .unset] [(.ref tt), (.int (0 : Int32))]))) (fun _ kk => XS.aloadN X0.here hx rfl (hb hby d11_2) rfl rfl kk) ?_
  obtain ⟨cl2, Ar2, q2, Sz2, Nn2, Hh2, G2⟩ := id (Vtt)
  have ln2 := len_of Sz2 Nn2
  refine go_of (B := (s₁.setTop (mkF m 4 #[.val (.ref t), .val (.ref tt), .unset] [(.int (0 : Int32)), (.int (0 : Int32))]))) (fun _ kk => X0.arraylength hx (by rw [e0]; exact Ar2.1) (State.isArrayOf_alike hZ.alike Ar2.2.1) (g := (mkF m 3 #[.val (.ref t), .val (.ref tt), .unset] [(.ref tt), (.int (0 : Int32))])) rfl rfl (hb hby d11_3) _ (by rw [ln2]; exact kk)) ?_
  refine go_of (B := (s₁.setTop (mkF m 7 #[.val (.ref t), .val (.ref tt), .unset] []))) (fun _ kk => XS.icmpNo X0.here hx rfl (hb hby d11_4) rfl (teq (by decide : (0 : Int32) = (0 : Int32))).2 kk) ?_
  refine go_of (B := (s₁.setTop (mkF m 8 #[.val (.ref t), .val (.ref tt), .unset] [(.int (0 : Int32))]))) (fun _ kk => XS.iconst X0.here hx rfl (hb hby d11_7) kk) ?_
  refine go_of (B := (s₁.setTop (mkF m 9 #[.val (.ref t), .val (.ref tt), .val (.int (0 : Int32))] []))) (fun _ kk => XS.istoreN X0.here hx rfl (hb hby d11_8) rfl rfl kk) ?_
  refine go_of (B := (s₁.setTop (mkF m 10 #[.val (.ref t), .val (.ref tt), .val (.int (0 : Int32))] [(.int (0 : Int32))]))) (fun _ kk => XS.iloadN X0.here hx rfl (hb hby d11_9) rfl kk) ?_
  refine go_of (B := (s₁.setTop (mkF m 11 #[.val (.ref t), .val (.ref tt), .val (.int (0 : Int32))] [(.ref t), (.int (0 : Int32))]))) (fun _ kk => XS.aloadN X0.here hx rfl (hb hby d11_10) rfl rfl kk) ?_
  obtain ⟨cl3, Ar3, q3, Sz3, Nn3, Hh3, G3⟩ := id (Vt)
  have ln3 := len_of Sz3 Nn3
  refine go_of (B := (s₁.setTop (mkF m 12 #[.val (.ref t), .val (.ref tt), .val (.int (0 : Int32))] [(.int (0 : Int32)), (.int (0 : Int32))]))) (fun _ kk => X0.arraylength hx (by rw [e0]; exact Ar3.1) (State.isArrayOf_alike hZ.alike Ar3.2.1) (g := (mkF m 11 #[.val (.ref t), .val (.ref tt), .val (.int (0 : Int32))] [(.ref t), (.int (0 : Int32))])) rfl rfl (hb hby d11_11) _ (by rw [ln3]; exact kk)) ?_
  refine go_of (B := (s₁.setTop (mkF m 32 #[.val (.ref t), .val (.ref tt), .val (.int (0 : Int32))] []))) (fun _ kk => XS.icmpYes X0.here hx rfl (pc0 := 12) (pc' := 32) rfl (hb hby d11_12) rfl (flt (by decide : ¬ ((0 : Int32) < (0 : Int32)))).2.1 (by decide) (by decide) kk) ?_
  refine go_of (B := (s₁.setTop (mkF m 33 #[.val (.ref t), .val (.ref tt), .val (.int (0 : Int32))] [(.int (1 : Int32))]))) (fun _ kk => XS.iconst X0.here hx rfl (hb hby d11_32) kk) ?_
  refine go_end X0 (v := some (.int (nar .boolean (1 : Int32)))) (fun h => by rw [Bd.returns] at h; cases h) Bd.notSynchronized (by decide) (by decide) (Q := (Q_str_lat_0_0 Z t tt k kk h0 n0)) ?_ (fun fs hr => retN X0 hx (t := .boolean) Bd.returns (by simp) (hb hby d11_33) hr)
  show (fun (v : Option Value) (h : Heap) (L : List Loc) => v = some (.int (own_eqv [] [])) ∧ Fr n0 L ∧ h = h0) (some (.int (nar .boolean (1 : Int32)))) s₁.heap _
  rw [e0]
  refine ⟨?_, N0, rfl⟩
  simp [own_eqv, nar]
theorem d11_34 : decode jdk_43_method_13_code 34 = .ok (.iconst 0, 1) := by decide +kernel
theorem d11_35 : decode jdk_43_method_13_code 35 = .ok (.ireturn, 1) := by decide +kernel
def Q_str_lat_0_1 (Z : State) (t : Addr) (tt : Addr) (d0 : Int32) (k : ClassId) (kk : ClassId) (h0 : Heap) (n0 : Nat) (v : Option Value) (h : Heap) (L : List Loc) : Prop := v = some (.int (own_eqv [] [d0])) ∧ Fr n0 L ∧ h = h0
theorem ef_str_lat_0_1 (m : MethodId) (t : Addr) (tt : Addr)  : entryFrame m #[(.ref t), (.ref tt)] 3 = mkF m 0 #[.val (.ref t), .val (.ref tt), .unset] [] := by first | (simp [entryFrame, mkF, argsToLocals, Value.category]; done) | rfl
set_option maxRecDepth 65536 in
set_option maxHeartbeats 40000000 in
theorem str_lat_0_1 (l : Launch) (Z : State) (a0 : Array Value) (hw : ∀ d ∈ tables_1, d.before a0 Z = true) (ws : List Jvm.Cond) (t : Addr) (tt : Addr) (d0 : Int32) (k : ClassId) (kk : ClassId) (h0 : Heap) (n0 : Nat) (Z0 : n0 ≤ h0.size) (Vt : Arv Z h0 t k .byte 0 [] (.int 0)) (Vtt : Arv Z h0 tt kk .byte 1 [(.int d0)] (.int 0)) :
    MetFree l (⟨"java/lang/StringLatin1", "equals", "([B[B)Z"⟩ : MethodName) (head1 (Jvm.Cond.code (⟨"java/lang/StringLatin1", "equals", "([B[B)Z"⟩ : MethodName) jdk_43_method_13_code 3 (some .boolean) :: ws) ({ frames := 0, cells := 0, slots := 0, locals := 0 } : Room)) (fun aa' U1' => aa' = #[(.ref t), (.ref tt)] ∧ Z.Warmed39 U1'.vm ∧ U1'.heap = h0) (fun _ _ _ _ _ => True) (fun _ U1' oo' U2' => ∃ vv' LL', oo' = .returned vv' ∧ (Q_str_lat_0_1 Z t tt d0 k kk h0 n0) vv' U2'.heap LL' ∧ FrameEnd U1' oo' U2' LL' ({ frames := 0, cells := 0, slots := 0, locals := 0 } : Room).cells ({ frames := 0, cells := 0, slots := 0, locals := 0 } : Room).slots) := by
  refine MetFree.of_bodySF (plainFor_of_name pn_java_lang_StringLatin1) hisR ?_
  intro p e s m args below meth c s₁ Bd hml0 hP hK
  obtain ⟨rfl, hZ, hh⟩ := hP
  have hx := Bd.exec
  have hby := Bd.bytes
  have hml : c.maxLocals = 3 := hml0
  have hown : s.vm.findClass "java/lang/StringLatin1" = some m.cls := findClass_of_methodNamed Bd.named
  have hnm := (name_of_methodNamed Bd.named Bd.method).1
  have X0 : Stand p l e ({ frames := 0, cells := 0, slots := 0, locals := 0 } : Room) s m #[(.ref t), (.ref tt)] below meth c s₁ [] 0 0 := Stand.of_body Bd
  have e0 : s₁.heap = h0 := by rw [← hh, Bd.state]; rfl
  have N0 := Fr.nil n0
  refine go_of (A := s₁.setTop (entryFrame m #[(.ref t), (.ref tt)] 3)) (B := s₁.setTop (mkF m 0 #[.val (.ref t), .val (.ref tt), .unset] [])) (fun _ kk' => castTop (ef_str_lat_0_1 m t tt) kk') ?_
  refine go_of (B := (s₁.setTop (mkF m 1 #[.val (.ref t), .val (.ref tt), .unset] [(.ref t)]))) (fun _ kk => XS.aloadN X0.here hx rfl (hb hby d11_0) rfl rfl kk) ?_
  obtain ⟨cl1, Ar1, q1, Sz1, Nn1, Hh1, G1⟩ := id (Vt)
  have ln1 := len_of Sz1 Nn1
  refine go_of (B := (s₁.setTop (mkF m 2 #[.val (.ref t), .val (.ref tt), .unset] [(.int (0 : Int32))]))) (fun _ kk => X0.arraylength hx (by rw [e0]; exact Ar1.1) (State.isArrayOf_alike hZ.alike Ar1.2.1) (g := (mkF m 1 #[.val (.ref t), .val (.ref tt), .unset] [(.ref t)])) rfl rfl (hb hby d11_1) _ (by rw [ln1]; exact kk)) ?_
  refine go_of (B := (s₁.setTop (mkF m 3 #[.val (.ref t), .val (.ref tt), .unset] [(.ref tt), (.int (0 : Int32))]))) (fun _ kk => XS.aloadN X0.here hx rfl (hb hby d11_2) rfl rfl kk) ?_
  obtain ⟨cl2, Ar2, q2, Sz2, Nn2, Hh2, G2⟩ := id (Vtt)
  have ln2 := len_of Sz2 Nn2
  refine go_of (B := (s₁.setTop (mkF m 4 #[.val (.ref t), .val (.ref tt), .unset] [(.int (1 : Int32)), (.int (0 : Int32))]))) (fun _ kk => X0.arraylength hx (by rw [e0]; exact Ar2.1) (State.isArrayOf_alike hZ.alike Ar2.2.1) (g := (mkF m 3 #[.val (.ref t), .val (.ref tt), .unset] [(.ref tt), (.int (0 : Int32))])) rfl rfl (hb hby d11_3) _ (by rw [ln2]; exact kk)) ?_
  refine go_of (B := (s₁.setTop (mkF m 34 #[.val (.ref t), .val (.ref tt), .unset] []))) (fun _ kk => XS.icmpYes X0.here hx rfl (pc0 := 4) (pc' := 34) rfl (hb hby d11_4) rfl (feq (by decide : ¬ ((0 : Int32) = (1 : Int32)))).2 (by decide) (by decide) kk) ?_
  refine go_of (B := (s₁.setTop (mkF m 35 #[.val (.ref t), .val (.ref tt), .unset] [(.int (0 : Int32))]))) (fun _ kk => XS.iconst X0.here hx rfl (hb hby d11_34) kk) ?_
  refine go_end X0 (v := some (.int (nar .boolean (0 : Int32)))) (fun h => by rw [Bd.returns] at h; cases h) Bd.notSynchronized (by decide) (by decide) (Q := (Q_str_lat_0_1 Z t tt d0 k kk h0 n0)) ?_ (fun fs hr => retN X0 hx (t := .boolean) Bd.returns (by simp) (hb hby d11_35) hr)
  show (fun (v : Option Value) (h : Heap) (L : List Loc) => v = some (.int (own_eqv [] [d0])) ∧ Fr n0 L ∧ h = h0) (some (.int (nar .boolean (0 : Int32)))) s₁.heap _
  rw [e0]
  refine ⟨?_, N0, rfl⟩
  simp [own_eqv, nar]
def Q_str_lat_0_2 (Z : State) (t : Addr) (tt : Addr) (d0 : Int32) (d1 : Int32) (k : ClassId) (kk : ClassId) (h0 : Heap) (n0 : Nat) (v : Option Value) (h : Heap) (L : List Loc) : Prop := v = some (.int (own_eqv [] [d0, d1])) ∧ Fr n0 L ∧ h = h0
theorem ef_str_lat_0_2 (m : MethodId) (t : Addr) (tt : Addr)  : entryFrame m #[(.ref t), (.ref tt)] 3 = mkF m 0 #[.val (.ref t), .val (.ref tt), .unset] [] := by first | (simp [entryFrame, mkF, argsToLocals, Value.category]; done) | rfl
set_option maxRecDepth 65536 in
set_option maxHeartbeats 40000000 in
theorem str_lat_0_2 (l : Launch) (Z : State) (a0 : Array Value) (hw : ∀ d ∈ tables_1, d.before a0 Z = true) (ws : List Jvm.Cond) (t : Addr) (tt : Addr) (d0 : Int32) (d1 : Int32) (k : ClassId) (kk : ClassId) (h0 : Heap) (n0 : Nat) (Z0 : n0 ≤ h0.size) (Vt : Arv Z h0 t k .byte 0 [] (.int 0)) (Vtt : Arv Z h0 tt kk .byte 2 [(.int d0), (.int d1)] (.int 0)) :
    MetFree l (⟨"java/lang/StringLatin1", "equals", "([B[B)Z"⟩ : MethodName) (head1 (Jvm.Cond.code (⟨"java/lang/StringLatin1", "equals", "([B[B)Z"⟩ : MethodName) jdk_43_method_13_code 3 (some .boolean) :: ws) ({ frames := 0, cells := 0, slots := 0, locals := 0 } : Room)) (fun aa' U1' => aa' = #[(.ref t), (.ref tt)] ∧ Z.Warmed39 U1'.vm ∧ U1'.heap = h0) (fun _ _ _ _ _ => True) (fun _ U1' oo' U2' => ∃ vv' LL', oo' = .returned vv' ∧ (Q_str_lat_0_2 Z t tt d0 d1 k kk h0 n0) vv' U2'.heap LL' ∧ FrameEnd U1' oo' U2' LL' ({ frames := 0, cells := 0, slots := 0, locals := 0 } : Room).cells ({ frames := 0, cells := 0, slots := 0, locals := 0 } : Room).slots) := by
  refine MetFree.of_bodySF (plainFor_of_name pn_java_lang_StringLatin1) hisR ?_
  intro p e s m args below meth c s₁ Bd hml0 hP hK
  obtain ⟨rfl, hZ, hh⟩ := hP
  have hx := Bd.exec
  have hby := Bd.bytes
  have hml : c.maxLocals = 3 := hml0
  have hown : s.vm.findClass "java/lang/StringLatin1" = some m.cls := findClass_of_methodNamed Bd.named
  have hnm := (name_of_methodNamed Bd.named Bd.method).1
  have X0 : Stand p l e ({ frames := 0, cells := 0, slots := 0, locals := 0 } : Room) s m #[(.ref t), (.ref tt)] below meth c s₁ [] 0 0 := Stand.of_body Bd
  have e0 : s₁.heap = h0 := by rw [← hh, Bd.state]; rfl
  have N0 := Fr.nil n0
  refine go_of (A := s₁.setTop (entryFrame m #[(.ref t), (.ref tt)] 3)) (B := s₁.setTop (mkF m 0 #[.val (.ref t), .val (.ref tt), .unset] [])) (fun _ kk' => castTop (ef_str_lat_0_2 m t tt) kk') ?_
  refine go_of (B := (s₁.setTop (mkF m 1 #[.val (.ref t), .val (.ref tt), .unset] [(.ref t)]))) (fun _ kk => XS.aloadN X0.here hx rfl (hb hby d11_0) rfl rfl kk) ?_
  obtain ⟨cl1, Ar1, q1, Sz1, Nn1, Hh1, G1⟩ := id (Vt)
  have ln1 := len_of Sz1 Nn1
  refine go_of (B := (s₁.setTop (mkF m 2 #[.val (.ref t), .val (.ref tt), .unset] [(.int (0 : Int32))]))) (fun _ kk => X0.arraylength hx (by rw [e0]; exact Ar1.1) (State.isArrayOf_alike hZ.alike Ar1.2.1) (g := (mkF m 1 #[.val (.ref t), .val (.ref tt), .unset] [(.ref t)])) rfl rfl (hb hby d11_1) _ (by rw [ln1]; exact kk)) ?_
  refine go_of (B := (s₁.setTop (mkF m 3 #[.val (.ref t), .val (.ref tt), .unset] [(.ref tt), (.int (0 : Int32))]))) (fun _ kk => XS.aloadN X0.here hx rfl (hb hby d11_2) rfl rfl kk) ?_
  obtain ⟨cl2, Ar2, q2, Sz2, Nn2, Hh2, G2⟩ := id (Vtt)
  have ln2 := len_of Sz2 Nn2
  refine go_of (B := (s₁.setTop (mkF m 4 #[.val (.ref t), .val (.ref tt), .unset] [(.int (2 : Int32)), (.int (0 : Int32))]))) (fun _ kk => X0.arraylength hx (by rw [e0]; exact Ar2.1) (State.isArrayOf_alike hZ.alike Ar2.2.1) (g := (mkF m 3 #[.val (.ref t), .val (.ref tt), .unset] [(.ref tt), (.int (0 : Int32))])) rfl rfl (hb hby d11_3) _ (by rw [ln2]; exact kk)) ?_
  refine go_of (B := (s₁.setTop (mkF m 34 #[.val (.ref t), .val (.ref tt), .unset] []))) (fun _ kk => XS.icmpYes X0.here hx rfl (pc0 := 4) (pc' := 34) rfl (hb hby d11_4) rfl (feq (by decide : ¬ ((0 : Int32) = (2 : Int32)))).2 (by decide) (by decide) kk) ?_
  refine go_of (B := (s₁.setTop (mkF m 35 #[.val (.ref t), .val (.ref tt), .unset] [(.int (0 : Int32))]))) (fun _ kk => XS.iconst X0.here hx rfl (hb hby d11_34) kk) ?_
  refine go_end X0 (v := some (.int (nar .boolean (0 : Int32)))) (fun h => by rw [Bd.returns] at h; cases h) Bd.notSynchronized (by decide) (by decide) (Q := (Q_str_lat_0_2 Z t tt d0 d1 k kk h0 n0)) ?_ (fun fs hr => retN X0 hx (t := .boolean) Bd.returns (by simp) (hb hby d11_35) hr)
  show (fun (v : Option Value) (h : Heap) (L : List Loc) => v = some (.int (own_eqv [] [d0, d1])) ∧ Fr n0 L ∧ h = h0) (some (.int (nar .boolean (0 : Int32)))) s₁.heap _
  rw [e0]
  refine ⟨?_, N0, rfl⟩
  simp [own_eqv, nar]
def Q_str_lat_1_0 (Z : State) (t : Addr) (tt : Addr) (c0 : Int32) (k : ClassId) (kk : ClassId) (h0 : Heap) (n0 : Nat) (v : Option Value) (h : Heap) (L : List Loc) : Prop := v = some (.int (own_eqv [c0] [])) ∧ Fr n0 L ∧ h = h0
theorem ef_str_lat_1_0 (m : MethodId) (t : Addr) (tt : Addr)  : entryFrame m #[(.ref t), (.ref tt)] 3 = mkF m 0 #[.val (.ref t), .val (.ref tt), .unset] [] := by first | (simp [entryFrame, mkF, argsToLocals, Value.category]; done) | rfl
set_option maxRecDepth 65536 in
set_option maxHeartbeats 40000000 in
theorem str_lat_1_0 (l : Launch) (Z : State) (a0 : Array Value) (hw : ∀ d ∈ tables_1, d.before a0 Z = true) (ws : List Jvm.Cond) (t : Addr) (tt : Addr) (c0 : Int32) (k : ClassId) (kk : ClassId) (h0 : Heap) (n0 : Nat) (Z0 : n0 ≤ h0.size) (Vt : Arv Z h0 t k .byte 1 [(.int c0)] (.int 0)) (Vtt : Arv Z h0 tt kk .byte 0 [] (.int 0)) :
    MetFree l (⟨"java/lang/StringLatin1", "equals", "([B[B)Z"⟩ : MethodName) (head1 (Jvm.Cond.code (⟨"java/lang/StringLatin1", "equals", "([B[B)Z"⟩ : MethodName) jdk_43_method_13_code 3 (some .boolean) :: ws) ({ frames := 0, cells := 0, slots := 0, locals := 0 } : Room)) (fun aa' U1' => aa' = #[(.ref t), (.ref tt)] ∧ Z.Warmed39 U1'.vm ∧ U1'.heap = h0) (fun _ _ _ _ _ => True) (fun _ U1' oo' U2' => ∃ vv' LL', oo' = .returned vv' ∧ (Q_str_lat_1_0 Z t tt c0 k kk h0 n0) vv' U2'.heap LL' ∧ FrameEnd U1' oo' U2' LL' ({ frames := 0, cells := 0, slots := 0, locals := 0 } : Room).cells ({ frames := 0, cells := 0, slots := 0, locals := 0 } : Room).slots) := by
  refine MetFree.of_bodySF (plainFor_of_name pn_java_lang_StringLatin1) hisR ?_
  intro p e s m args below meth c s₁ Bd hml0 hP hK
  obtain ⟨rfl, hZ, hh⟩ := hP
  have hx := Bd.exec
  have hby := Bd.bytes
  have hml : c.maxLocals = 3 := hml0
  have hown : s.vm.findClass "java/lang/StringLatin1" = some m.cls := findClass_of_methodNamed Bd.named
  have hnm := (name_of_methodNamed Bd.named Bd.method).1
  have X0 : Stand p l e ({ frames := 0, cells := 0, slots := 0, locals := 0 } : Room) s m #[(.ref t), (.ref tt)] below meth c s₁ [] 0 0 := Stand.of_body Bd
  have e0 : s₁.heap = h0 := by rw [← hh, Bd.state]; rfl
  have N0 := Fr.nil n0
  refine go_of (A := s₁.setTop (entryFrame m #[(.ref t), (.ref tt)] 3)) (B := s₁.setTop (mkF m 0 #[.val (.ref t), .val (.ref tt), .unset] [])) (fun _ kk' => castTop (ef_str_lat_1_0 m t tt) kk') ?_
  refine go_of (B := (s₁.setTop (mkF m 1 #[.val (.ref t), .val (.ref tt), .unset] [(.ref t)]))) (fun _ kk => XS.aloadN X0.here hx rfl (hb hby d11_0) rfl rfl kk) ?_
  obtain ⟨cl1, Ar1, q1, Sz1, Nn1, Hh1, G1⟩ := id (Vt)
  have ln1 := len_of Sz1 Nn1
  refine go_of (B := (s₁.setTop (mkF m 2 #[.val (.ref t), .val (.ref tt), .unset] [(.int (1 : Int32))]))) (fun _ kk => X0.arraylength hx (by rw [e0]; exact Ar1.1) (State.isArrayOf_alike hZ.alike Ar1.2.1) (g := (mkF m 1 #[.val (.ref t), .val (.ref tt), .unset] [(.ref t)])) rfl rfl (hb hby d11_1) _ (by rw [ln1]; exact kk)) ?_
  refine go_of (B := (s₁.setTop (mkF m 3 #[.val (.ref t), .val (.ref tt), .unset] [(.ref tt), (.int (1 : Int32))]))) (fun _ kk => XS.aloadN X0.here hx rfl (hb hby d11_2) rfl rfl kk) ?_
  obtain ⟨cl2, Ar2, q2, Sz2, Nn2, Hh2, G2⟩ := id (Vtt)
  have ln2 := len_of Sz2 Nn2
  refine go_of (B := (s₁.setTop (mkF m 4 #[.val (.ref t), .val (.ref tt), .unset] [(.int (0 : Int32)), (.int (1 : Int32))]))) (fun _ kk => X0.arraylength hx (by rw [e0]; exact Ar2.1) (State.isArrayOf_alike hZ.alike Ar2.2.1) (g := (mkF m 3 #[.val (.ref t), .val (.ref tt), .unset] [(.ref tt), (.int (1 : Int32))])) rfl rfl (hb hby d11_3) _ (by rw [ln2]; exact kk)) ?_
  refine go_of (B := (s₁.setTop (mkF m 34 #[.val (.ref t), .val (.ref tt), .unset] []))) (fun _ kk => XS.icmpYes X0.here hx rfl (pc0 := 4) (pc' := 34) rfl (hb hby d11_4) rfl (feq (by decide : ¬ ((1 : Int32) = (0 : Int32)))).2 (by decide) (by decide) kk) ?_
  refine go_of (B := (s₁.setTop (mkF m 35 #[.val (.ref t), .val (.ref tt), .unset] [(.int (0 : Int32))]))) (fun _ kk => XS.iconst X0.here hx rfl (hb hby d11_34) kk) ?_
  refine go_end X0 (v := some (.int (nar .boolean (0 : Int32)))) (fun h => by rw [Bd.returns] at h; cases h) Bd.notSynchronized (by decide) (by decide) (Q := (Q_str_lat_1_0 Z t tt c0 k kk h0 n0)) ?_ (fun fs hr => retN X0 hx (t := .boolean) Bd.returns (by simp) (hb hby d11_35) hr)
  show (fun (v : Option Value) (h : Heap) (L : List Loc) => v = some (.int (own_eqv [c0] [])) ∧ Fr n0 L ∧ h = h0) (some (.int (nar .boolean (0 : Int32)))) s₁.heap _
  rw [e0]
  refine ⟨?_, N0, rfl⟩
  simp [own_eqv, nar]
theorem d11_15 : decode jdk_43_method_13_code 15 = .ok (.aload_n 0, 1) := by decide +kernel
theorem d11_16 : decode jdk_43_method_13_code 16 = .ok (.iload_n 2, 1) := by decide +kernel
theorem d11_17 : decode jdk_43_method_13_code 17 = .ok (.baload, 1) := by decide +kernel
theorem d11_18 : decode jdk_43_method_13_code 18 = .ok (.aload_n 1, 1) := by decide +kernel
theorem d11_19 : decode jdk_43_method_13_code 19 = .ok (.iload_n 2, 1) := by decide +kernel
theorem d11_20 : decode jdk_43_method_13_code 20 = .ok (.baload, 1) := by decide +kernel
theorem d11_21 : decode jdk_43_method_13_code 21 = .ok (.if_icmp .eq 5, 3) := by decide +kernel
theorem d11_26 : decode jdk_43_method_13_code 26 = .ok (.iinc 2 1, 3) := by decide +kernel
theorem d11_29 : decode jdk_43_method_13_code 29 = .ok (.goto (-20), 3) := by decide +kernel
def Q_str_lat_1_1 (Z : State) (t : Addr) (tt : Addr) (c0 : Int32) (d0 : Int32) (k : ClassId) (kk : ClassId) (h0 : Heap) (n0 : Nat) (v : Option Value) (h : Heap) (L : List Loc) : Prop := v = some (.int (own_eqv [c0] [d0])) ∧ Fr n0 L ∧ h = h0
theorem d11_24 : decode jdk_43_method_13_code 24 = .ok (.iconst 0, 1) := by decide +kernel
theorem d11_25 : decode jdk_43_method_13_code 25 = .ok (.ireturn, 1) := by decide +kernel
theorem ef_str_lat_1_1 (m : MethodId) (t : Addr) (tt : Addr)  : entryFrame m #[(.ref t), (.ref tt)] 3 = mkF m 0 #[.val (.ref t), .val (.ref tt), .unset] [] := by first | (simp [entryFrame, mkF, argsToLocals, Value.category]; done) | rfl
set_option maxRecDepth 65536 in
set_option maxHeartbeats 40000000 in
theorem str_lat_1_1 (l : Launch) (Z : State) (a0 : Array Value) (hw : ∀ d ∈ tables_1, d.before a0 Z = true) (ws : List Jvm.Cond) (t : Addr) (tt : Addr) (c0 : Int32) (d0 : Int32) (k : ClassId) (kk : ClassId) (h0 : Heap) (n0 : Nat) (Z0 : n0 ≤ h0.size) (Vt : Arv Z h0 t k .byte 1 [(.int c0)] (.int 0)) (Vtt : Arv Z h0 tt kk .byte 1 [(.int d0)] (.int 0)) :
    MetFree l (⟨"java/lang/StringLatin1", "equals", "([B[B)Z"⟩ : MethodName) (head1 (Jvm.Cond.code (⟨"java/lang/StringLatin1", "equals", "([B[B)Z"⟩ : MethodName) jdk_43_method_13_code 3 (some .boolean) :: ws) ({ frames := 0, cells := 0, slots := 0, locals := 0 } : Room)) (fun aa' U1' => aa' = #[(.ref t), (.ref tt)] ∧ Z.Warmed39 U1'.vm ∧ U1'.heap = h0) (fun _ _ _ _ _ => True) (fun _ U1' oo' U2' => ∃ vv' LL', oo' = .returned vv' ∧ (Q_str_lat_1_1 Z t tt c0 d0 k kk h0 n0) vv' U2'.heap LL' ∧ FrameEnd U1' oo' U2' LL' ({ frames := 0, cells := 0, slots := 0, locals := 0 } : Room).cells ({ frames := 0, cells := 0, slots := 0, locals := 0 } : Room).slots) := by
  refine MetFree.of_bodySF (plainFor_of_name pn_java_lang_StringLatin1) hisR ?_
  intro p e s m args below meth c s₁ Bd hml0 hP hK
  obtain ⟨rfl, hZ, hh⟩ := hP
  have hx := Bd.exec
  have hby := Bd.bytes
  have hml : c.maxLocals = 3 := hml0
  have hown : s.vm.findClass "java/lang/StringLatin1" = some m.cls := findClass_of_methodNamed Bd.named
  have hnm := (name_of_methodNamed Bd.named Bd.method).1
  have X0 : Stand p l e ({ frames := 0, cells := 0, slots := 0, locals := 0 } : Room) s m #[(.ref t), (.ref tt)] below meth c s₁ [] 0 0 := Stand.of_body Bd
  have e0 : s₁.heap = h0 := by rw [← hh, Bd.state]; rfl
  have N0 := Fr.nil n0
  refine go_of (A := s₁.setTop (entryFrame m #[(.ref t), (.ref tt)] 3)) (B := s₁.setTop (mkF m 0 #[.val (.ref t), .val (.ref tt), .unset] [])) (fun _ kk' => castTop (ef_str_lat_1_1 m t tt) kk') ?_
  refine go_of (B := (s₁.setTop (mkF m 1 #[.val (.ref t), .val (.ref tt), .unset] [(.ref t)]))) (fun _ kk => XS.aloadN X0.here hx rfl (hb hby d11_0) rfl rfl kk) ?_
  obtain ⟨cl1, Ar1, q1, Sz1, Nn1, Hh1, G1⟩ := id (Vt)
  have ln1 := len_of Sz1 Nn1
  refine go_of (B := (s₁.setTop (mkF m 2 #[.val (.ref t), .val (.ref tt), .unset] [(.int (1 : Int32))]))) (fun _ kk => X0.arraylength hx (by rw [e0]; exact Ar1.1) (State.isArrayOf_alike hZ.alike Ar1.2.1) (g := (mkF m 1 #[.val (.ref t), .val (.ref tt), .unset] [(.ref t)])) rfl rfl (hb hby d11_1) _ (by rw [ln1]; exact kk)) ?_
  refine go_of (B := (s₁.setTop (mkF m 3 #[.val (.ref t), .val (.ref tt), .unset] [(.ref tt), (.int (1 : Int32))]))) (fun _ kk => XS.aloadN X0.here hx rfl (hb hby d11_2) rfl rfl kk) ?_
  obtain ⟨cl2, Ar2, q2, Sz2, Nn2, Hh2, G2⟩ := id (Vtt)
  have ln2 := len_of Sz2 Nn2
  refine go_of (B := (s₁.setTop (mkF m 4 #[.val (.ref t), .val (.ref tt), .unset] [(.int (1 : Int32)), (.int (1 : Int32))]))) (fun _ kk => X0.arraylength hx (by rw [e0]; exact Ar2.1) (State.isArrayOf_alike hZ.alike Ar2.2.1) (g := (mkF m 3 #[.val (.ref t), .val (.ref tt), .unset] [(.ref tt), (.int (1 : Int32))])) rfl rfl (hb hby d11_3) _ (by rw [ln2]; exact kk)) ?_
  refine go_of (B := (s₁.setTop (mkF m 7 #[.val (.ref t), .val (.ref tt), .unset] []))) (fun _ kk => XS.icmpNo X0.here hx rfl (hb hby d11_4) rfl (teq (by decide : (1 : Int32) = (1 : Int32))).2 kk) ?_
  refine go_of (B := (s₁.setTop (mkF m 8 #[.val (.ref t), .val (.ref tt), .unset] [(.int (0 : Int32))]))) (fun _ kk => XS.iconst X0.here hx rfl (hb hby d11_7) kk) ?_
  refine go_of (B := (s₁.setTop (mkF m 9 #[.val (.ref t), .val (.ref tt), .val (.int (0 : Int32))] []))) (fun _ kk => XS.istoreN X0.here hx rfl (hb hby d11_8) rfl rfl kk) ?_
  refine go_of (B := (s₁.setTop (mkF m 10 #[.val (.ref t), .val (.ref tt), .val (.int (0 : Int32))] [(.int (0 : Int32))]))) (fun _ kk => XS.iloadN X0.here hx rfl (hb hby d11_9) rfl kk) ?_
  refine go_of (B := (s₁.setTop (mkF m 11 #[.val (.ref t), .val (.ref tt), .val (.int (0 : Int32))] [(.ref t), (.int (0 : Int32))]))) (fun _ kk => XS.aloadN X0.here hx rfl (hb hby d11_10) rfl rfl kk) ?_
  obtain ⟨cl3, Ar3, q3, Sz3, Nn3, Hh3, G3⟩ := id (Vt)
  have ln3 := len_of Sz3 Nn3
  refine go_of (B := (s₁.setTop (mkF m 12 #[.val (.ref t), .val (.ref tt), .val (.int (0 : Int32))] [(.int (1 : Int32)), (.int (0 : Int32))]))) (fun _ kk => X0.arraylength hx (by rw [e0]; exact Ar3.1) (State.isArrayOf_alike hZ.alike Ar3.2.1) (g := (mkF m 11 #[.val (.ref t), .val (.ref tt), .val (.int (0 : Int32))] [(.ref t), (.int (0 : Int32))])) rfl rfl (hb hby d11_11) _ (by rw [ln3]; exact kk)) ?_
  refine go_of (B := (s₁.setTop (mkF m 15 #[.val (.ref t), .val (.ref tt), .val (.int (0 : Int32))] []))) (fun _ kk => XS.icmpNo X0.here hx rfl (hb hby d11_12) rfl (tlt (by decide : (0 : Int32) < (1 : Int32))).2.1 kk) ?_
  refine go_of (B := (s₁.setTop (mkF m 16 #[.val (.ref t), .val (.ref tt), .val (.int (0 : Int32))] [(.ref t)]))) (fun _ kk => XS.aloadN X0.here hx rfl (hb hby d11_15) rfl rfl kk) ?_
  refine go_of (B := (s₁.setTop (mkF m 17 #[.val (.ref t), .val (.ref tt), .val (.int (0 : Int32))] [(.int (0 : Int32)), (.ref t)]))) (fun _ kk => XS.iloadN X0.here hx rfl (hb hby d11_16) rfl kk) ?_
  obtain ⟨cl4, Ar4, q4, Sz4, Nn4, Hh4, G4⟩ := id (Vt)
  refine go_of (B := (s₁.setTop (mkF m 18 #[.val (.ref t), .val (.ref tt), .val (.int (0 : Int32))] [(.int c0)]))) (fun _ kk => X0.baloadBytes hx (j := (0 : Int32)) (v := (.int c0)) (by rw [e0]; exact Ar4.1) (State.isArrayOf_alike hZ.alike Ar4.2.1) Ar4.2.2 (inb_of Sz4 ⟨by decide, by decide⟩) (Hh4.at (inb_of Sz4 ⟨by decide, by decide⟩) rfl) (g := (mkF m 17 #[.val (.ref t), .val (.ref tt), .val (.int (0 : Int32))] [(.int (0 : Int32)), (.ref t)])) rfl rfl (hb hby d11_17) _ kk) ?_
  refine go_of (B := (s₁.setTop (mkF m 19 #[.val (.ref t), .val (.ref tt), .val (.int (0 : Int32))] [(.ref tt), (.int c0)]))) (fun _ kk => XS.aloadN X0.here hx rfl (hb hby d11_18) rfl rfl kk) ?_
  refine go_of (B := (s₁.setTop (mkF m 20 #[.val (.ref t), .val (.ref tt), .val (.int (0 : Int32))] [(.int (0 : Int32)), (.ref tt), (.int c0)]))) (fun _ kk => XS.iloadN X0.here hx rfl (hb hby d11_19) rfl kk) ?_
  obtain ⟨cl5, Ar5, q5, Sz5, Nn5, Hh5, G5⟩ := id (Vtt)
  refine go_of (B := (s₁.setTop (mkF m 21 #[.val (.ref t), .val (.ref tt), .val (.int (0 : Int32))] [(.int d0), (.int c0)]))) (fun _ kk => X0.baloadBytes hx (j := (0 : Int32)) (v := (.int d0)) (by rw [e0]; exact Ar5.1) (State.isArrayOf_alike hZ.alike Ar5.2.1) Ar5.2.2 (inb_of Sz5 ⟨by decide, by decide⟩) (Hh5.at (inb_of Sz5 ⟨by decide, by decide⟩) rfl) (g := (mkF m 20 #[.val (.ref t), .val (.ref tt), .val (.int (0 : Int32))] [(.int (0 : Int32)), (.ref tt), (.int c0)])) rfl rfl (hb hby d11_20) _ kk) ?_
  by_cases hc6 : c0 = d0
  · refine go_of (B := (s₁.setTop (mkF m 26 #[.val (.ref t), .val (.ref tt), .val (.int (0 : Int32))] []))) (fun _ kk => XS.icmpYes X0.here hx rfl (pc0 := 21) (pc' := 26) rfl (hb hby d11_21) rfl (teq hc6).1 (by decide) (by decide) kk) ?_
    refine go_of (B := (s₁.setTop (mkF m 29 #[.val (.ref t), .val (.ref tt), .val (.int (1 : Int32))] []))) (fun _ kk => XS.iinc X0.here hx rfl (hb hby d11_26) rfl rfl kk) ?_
    refine go_of (B := (s₁.setTop (mkF m 9 #[.val (.ref t), .val (.ref tt), .val (.int (1 : Int32))] []))) (fun _ kk => XS.goto X0.here hx rfl (pc0 := 29) (pc' := 9) rfl (hb hby d11_29) (by decide) (by decide) kk) ?_
    refine go_of (B := (s₁.setTop (mkF m 10 #[.val (.ref t), .val (.ref tt), .val (.int (1 : Int32))] [(.int (1 : Int32))]))) (fun _ kk => XS.iloadN X0.here hx rfl (hb hby d11_9) rfl kk) ?_
    refine go_of (B := (s₁.setTop (mkF m 11 #[.val (.ref t), .val (.ref tt), .val (.int (1 : Int32))] [(.ref t), (.int (1 : Int32))]))) (fun _ kk => XS.aloadN X0.here hx rfl (hb hby d11_10) rfl rfl kk) ?_
    obtain ⟨cl7, Ar7, q7, Sz7, Nn7, Hh7, G7⟩ := id (Vt)
    have ln7 := len_of Sz7 Nn7
    refine go_of (B := (s₁.setTop (mkF m 12 #[.val (.ref t), .val (.ref tt), .val (.int (1 : Int32))] [(.int (1 : Int32)), (.int (1 : Int32))]))) (fun _ kk => X0.arraylength hx (by rw [e0]; exact Ar7.1) (State.isArrayOf_alike hZ.alike Ar7.2.1) (g := (mkF m 11 #[.val (.ref t), .val (.ref tt), .val (.int (1 : Int32))] [(.ref t), (.int (1 : Int32))])) rfl rfl (hb hby d11_11) _ (by rw [ln7]; exact kk)) ?_
    refine go_of (B := (s₁.setTop (mkF m 32 #[.val (.ref t), .val (.ref tt), .val (.int (1 : Int32))] []))) (fun _ kk => XS.icmpYes X0.here hx rfl (pc0 := 12) (pc' := 32) rfl (hb hby d11_12) rfl (flt (by decide : ¬ ((1 : Int32) < (1 : Int32)))).2.1 (by decide) (by decide) kk) ?_
    refine go_of (B := (s₁.setTop (mkF m 33 #[.val (.ref t), .val (.ref tt), .val (.int (1 : Int32))] [(.int (1 : Int32))]))) (fun _ kk => XS.iconst X0.here hx rfl (hb hby d11_32) kk) ?_
    refine go_end X0 (v := some (.int (nar .boolean (1 : Int32)))) (fun h => by rw [Bd.returns] at h; cases h) Bd.notSynchronized (by decide) (by decide) (Q := (Q_str_lat_1_1 Z t tt c0 d0 k kk h0 n0)) ?_ (fun fs hr => retN X0 hx (t := .boolean) Bd.returns (by simp) (hb hby d11_33) hr)
    show (fun (v : Option Value) (h : Heap) (L : List Loc) => v = some (.int (own_eqv [c0] [d0])) ∧ Fr n0 L ∧ h = h0) (some (.int (nar .boolean (1 : Int32)))) s₁.heap _
    rw [e0]
    refine ⟨?_, N0, rfl⟩
    simp [own_eqv, nar, hc6]
  · refine go_of (B := (s₁.setTop (mkF m 24 #[.val (.ref t), .val (.ref tt), .val (.int (0 : Int32))] []))) (fun _ kk => XS.icmpNo X0.here hx rfl (hb hby d11_21) rfl (feq hc6).1 kk) ?_
    refine go_of (B := (s₁.setTop (mkF m 25 #[.val (.ref t), .val (.ref tt), .val (.int (0 : Int32))] [(.int (0 : Int32))]))) (fun _ kk => XS.iconst X0.here hx rfl (hb hby d11_24) kk) ?_
    refine go_end X0 (v := some (.int (nar .boolean (0 : Int32)))) (fun h => by rw [Bd.returns] at h; cases h) Bd.notSynchronized (by decide) (by decide) (Q := (Q_str_lat_1_1 Z t tt c0 d0 k kk h0 n0)) ?_ (fun fs hr => retN X0 hx (t := .boolean) Bd.returns (by simp) (hb hby d11_25) hr)
    show (fun (v : Option Value) (h : Heap) (L : List Loc) => v = some (.int (own_eqv [c0] [d0])) ∧ Fr n0 L ∧ h = h0) (some (.int (nar .boolean (0 : Int32)))) s₁.heap _
    rw [e0]
    refine ⟨?_, N0, rfl⟩
    simp [own_eqv, nar, hc6]
def Q_str_lat_1_2 (Z : State) (t : Addr) (tt : Addr) (c0 : Int32) (d0 : Int32) (d1 : Int32) (k : ClassId) (kk : ClassId) (h0 : Heap) (n0 : Nat) (v : Option Value) (h : Heap) (L : List Loc) : Prop := v = some (.int (own_eqv [c0] [d0, d1])) ∧ Fr n0 L ∧ h = h0
theorem ef_str_lat_1_2 (m : MethodId) (t : Addr) (tt : Addr)  : entryFrame m #[(.ref t), (.ref tt)] 3 = mkF m 0 #[.val (.ref t), .val (.ref tt), .unset] [] := by first | (simp [entryFrame, mkF, argsToLocals, Value.category]; done) | rfl
set_option maxRecDepth 65536 in
set_option maxHeartbeats 40000000 in
theorem str_lat_1_2 (l : Launch) (Z : State) (a0 : Array Value) (hw : ∀ d ∈ tables_1, d.before a0 Z = true) (ws : List Jvm.Cond) (t : Addr) (tt : Addr) (c0 : Int32) (d0 : Int32) (d1 : Int32) (k : ClassId) (kk : ClassId) (h0 : Heap) (n0 : Nat) (Z0 : n0 ≤ h0.size) (Vt : Arv Z h0 t k .byte 1 [(.int c0)] (.int 0)) (Vtt : Arv Z h0 tt kk .byte 2 [(.int d0), (.int d1)] (.int 0)) :
    MetFree l (⟨"java/lang/StringLatin1", "equals", "([B[B)Z"⟩ : MethodName) (head1 (Jvm.Cond.code (⟨"java/lang/StringLatin1", "equals", "([B[B)Z"⟩ : MethodName) jdk_43_method_13_code 3 (some .boolean) :: ws) ({ frames := 0, cells := 0, slots := 0, locals := 0 } : Room)) (fun aa' U1' => aa' = #[(.ref t), (.ref tt)] ∧ Z.Warmed39 U1'.vm ∧ U1'.heap = h0) (fun _ _ _ _ _ => True) (fun _ U1' oo' U2' => ∃ vv' LL', oo' = .returned vv' ∧ (Q_str_lat_1_2 Z t tt c0 d0 d1 k kk h0 n0) vv' U2'.heap LL' ∧ FrameEnd U1' oo' U2' LL' ({ frames := 0, cells := 0, slots := 0, locals := 0 } : Room).cells ({ frames := 0, cells := 0, slots := 0, locals := 0 } : Room).slots) := by
  refine MetFree.of_bodySF (plainFor_of_name pn_java_lang_StringLatin1) hisR ?_
  intro p e s m args below meth c s₁ Bd hml0 hP hK
  obtain ⟨rfl, hZ, hh⟩ := hP
  have hx := Bd.exec
  have hby := Bd.bytes
  have hml : c.maxLocals = 3 := hml0
  have hown : s.vm.findClass "java/lang/StringLatin1" = some m.cls := findClass_of_methodNamed Bd.named
  have hnm := (name_of_methodNamed Bd.named Bd.method).1
  have X0 : Stand p l e ({ frames := 0, cells := 0, slots := 0, locals := 0 } : Room) s m #[(.ref t), (.ref tt)] below meth c s₁ [] 0 0 := Stand.of_body Bd
  have e0 : s₁.heap = h0 := by rw [← hh, Bd.state]; rfl
  have N0 := Fr.nil n0
  refine go_of (A := s₁.setTop (entryFrame m #[(.ref t), (.ref tt)] 3)) (B := s₁.setTop (mkF m 0 #[.val (.ref t), .val (.ref tt), .unset] [])) (fun _ kk' => castTop (ef_str_lat_1_2 m t tt) kk') ?_
  refine go_of (B := (s₁.setTop (mkF m 1 #[.val (.ref t), .val (.ref tt), .unset] [(.ref t)]))) (fun _ kk => XS.aloadN X0.here hx rfl (hb hby d11_0) rfl rfl kk) ?_
  obtain ⟨cl1, Ar1, q1, Sz1, Nn1, Hh1, G1⟩ := id (Vt)
  have ln1 := len_of Sz1 Nn1
  refine go_of (B := (s₁.setTop (mkF m 2 #[.val (.ref t), .val (.ref tt), .unset] [(.int (1 : Int32))]))) (fun _ kk => X0.arraylength hx (by rw [e0]; exact Ar1.1) (State.isArrayOf_alike hZ.alike Ar1.2.1) (g := (mkF m 1 #[.val (.ref t), .val (.ref tt), .unset] [(.ref t)])) rfl rfl (hb hby d11_1) _ (by rw [ln1]; exact kk)) ?_
  refine go_of (B := (s₁.setTop (mkF m 3 #[.val (.ref t), .val (.ref tt), .unset] [(.ref tt), (.int (1 : Int32))]))) (fun _ kk => XS.aloadN X0.here hx rfl (hb hby d11_2) rfl rfl kk) ?_
  obtain ⟨cl2, Ar2, q2, Sz2, Nn2, Hh2, G2⟩ := id (Vtt)
  have ln2 := len_of Sz2 Nn2
  refine go_of (B := (s₁.setTop (mkF m 4 #[.val (.ref t), .val (.ref tt), .unset] [(.int (2 : Int32)), (.int (1 : Int32))]))) (fun _ kk => X0.arraylength hx (by rw [e0]; exact Ar2.1) (State.isArrayOf_alike hZ.alike Ar2.2.1) (g := (mkF m 3 #[.val (.ref t), .val (.ref tt), .unset] [(.ref tt), (.int (1 : Int32))])) rfl rfl (hb hby d11_3) _ (by rw [ln2]; exact kk)) ?_
  refine go_of (B := (s₁.setTop (mkF m 34 #[.val (.ref t), .val (.ref tt), .unset] []))) (fun _ kk => XS.icmpYes X0.here hx rfl (pc0 := 4) (pc' := 34) rfl (hb hby d11_4) rfl (feq (by decide : ¬ ((1 : Int32) = (2 : Int32)))).2 (by decide) (by decide) kk) ?_
  refine go_of (B := (s₁.setTop (mkF m 35 #[.val (.ref t), .val (.ref tt), .unset] [(.int (0 : Int32))]))) (fun _ kk => XS.iconst X0.here hx rfl (hb hby d11_34) kk) ?_
  refine go_end X0 (v := some (.int (nar .boolean (0 : Int32)))) (fun h => by rw [Bd.returns] at h; cases h) Bd.notSynchronized (by decide) (by decide) (Q := (Q_str_lat_1_2 Z t tt c0 d0 d1 k kk h0 n0)) ?_ (fun fs hr => retN X0 hx (t := .boolean) Bd.returns (by simp) (hb hby d11_35) hr)
  show (fun (v : Option Value) (h : Heap) (L : List Loc) => v = some (.int (own_eqv [c0] [d0, d1])) ∧ Fr n0 L ∧ h = h0) (some (.int (nar .boolean (0 : Int32)))) s₁.heap _
  rw [e0]
  refine ⟨?_, N0, rfl⟩
  simp [own_eqv, nar]
def Q_str_lat_2_0 (Z : State) (t : Addr) (tt : Addr) (c0 : Int32) (c1 : Int32) (k : ClassId) (kk : ClassId) (h0 : Heap) (n0 : Nat) (v : Option Value) (h : Heap) (L : List Loc) : Prop := v = some (.int (own_eqv [c0, c1] [])) ∧ Fr n0 L ∧ h = h0
theorem ef_str_lat_2_0 (m : MethodId) (t : Addr) (tt : Addr)  : entryFrame m #[(.ref t), (.ref tt)] 3 = mkF m 0 #[.val (.ref t), .val (.ref tt), .unset] [] := by first | (simp [entryFrame, mkF, argsToLocals, Value.category]; done) | rfl
set_option maxRecDepth 65536 in
set_option maxHeartbeats 40000000 in
theorem str_lat_2_0 (l : Launch) (Z : State) (a0 : Array Value) (hw : ∀ d ∈ tables_1, d.before a0 Z = true) (ws : List Jvm.Cond) (t : Addr) (tt : Addr) (c0 : Int32) (c1 : Int32) (k : ClassId) (kk : ClassId) (h0 : Heap) (n0 : Nat) (Z0 : n0 ≤ h0.size) (Vt : Arv Z h0 t k .byte 2 [(.int c0), (.int c1)] (.int 0)) (Vtt : Arv Z h0 tt kk .byte 0 [] (.int 0)) :
    MetFree l (⟨"java/lang/StringLatin1", "equals", "([B[B)Z"⟩ : MethodName) (head1 (Jvm.Cond.code (⟨"java/lang/StringLatin1", "equals", "([B[B)Z"⟩ : MethodName) jdk_43_method_13_code 3 (some .boolean) :: ws) ({ frames := 0, cells := 0, slots := 0, locals := 0 } : Room)) (fun aa' U1' => aa' = #[(.ref t), (.ref tt)] ∧ Z.Warmed39 U1'.vm ∧ U1'.heap = h0) (fun _ _ _ _ _ => True) (fun _ U1' oo' U2' => ∃ vv' LL', oo' = .returned vv' ∧ (Q_str_lat_2_0 Z t tt c0 c1 k kk h0 n0) vv' U2'.heap LL' ∧ FrameEnd U1' oo' U2' LL' ({ frames := 0, cells := 0, slots := 0, locals := 0 } : Room).cells ({ frames := 0, cells := 0, slots := 0, locals := 0 } : Room).slots) := by
  refine MetFree.of_bodySF (plainFor_of_name pn_java_lang_StringLatin1) hisR ?_
  intro p e s m args below meth c s₁ Bd hml0 hP hK
  obtain ⟨rfl, hZ, hh⟩ := hP
  have hx := Bd.exec
  have hby := Bd.bytes
  have hml : c.maxLocals = 3 := hml0
  have hown : s.vm.findClass "java/lang/StringLatin1" = some m.cls := findClass_of_methodNamed Bd.named
  have hnm := (name_of_methodNamed Bd.named Bd.method).1
  have X0 : Stand p l e ({ frames := 0, cells := 0, slots := 0, locals := 0 } : Room) s m #[(.ref t), (.ref tt)] below meth c s₁ [] 0 0 := Stand.of_body Bd
  have e0 : s₁.heap = h0 := by rw [← hh, Bd.state]; rfl
  have N0 := Fr.nil n0
  refine go_of (A := s₁.setTop (entryFrame m #[(.ref t), (.ref tt)] 3)) (B := s₁.setTop (mkF m 0 #[.val (.ref t), .val (.ref tt), .unset] [])) (fun _ kk' => castTop (ef_str_lat_2_0 m t tt) kk') ?_
  refine go_of (B := (s₁.setTop (mkF m 1 #[.val (.ref t), .val (.ref tt), .unset] [(.ref t)]))) (fun _ kk => XS.aloadN X0.here hx rfl (hb hby d11_0) rfl rfl kk) ?_
  obtain ⟨cl1, Ar1, q1, Sz1, Nn1, Hh1, G1⟩ := id (Vt)
  have ln1 := len_of Sz1 Nn1
  refine go_of (B := (s₁.setTop (mkF m 2 #[.val (.ref t), .val (.ref tt), .unset] [(.int (2 : Int32))]))) (fun _ kk => X0.arraylength hx (by rw [e0]; exact Ar1.1) (State.isArrayOf_alike hZ.alike Ar1.2.1) (g := (mkF m 1 #[.val (.ref t), .val (.ref tt), .unset] [(.ref t)])) rfl rfl (hb hby d11_1) _ (by rw [ln1]; exact kk)) ?_
  refine go_of (B := (s₁.setTop (mkF m 3 #[.val (.ref t), .val (.ref tt), .unset] [(.ref tt), (.int (2 : Int32))]))) (fun _ kk => XS.aloadN X0.here hx rfl (hb hby d11_2) rfl rfl kk) ?_
  obtain ⟨cl2, Ar2, q2, Sz2, Nn2, Hh2, G2⟩ := id (Vtt)
  have ln2 := len_of Sz2 Nn2
  refine go_of (B := (s₁.setTop (mkF m 4 #[.val (.ref t), .val (.ref tt), .unset] [(.int (0 : Int32)), (.int (2 : Int32))]))) (fun _ kk => X0.arraylength hx (by rw [e0]; exact Ar2.1) (State.isArrayOf_alike hZ.alike Ar2.2.1) (g := (mkF m 3 #[.val (.ref t), .val (.ref tt), .unset] [(.ref tt), (.int (2 : Int32))])) rfl rfl (hb hby d11_3) _ (by rw [ln2]; exact kk)) ?_
  refine go_of (B := (s₁.setTop (mkF m 34 #[.val (.ref t), .val (.ref tt), .unset] []))) (fun _ kk => XS.icmpYes X0.here hx rfl (pc0 := 4) (pc' := 34) rfl (hb hby d11_4) rfl (feq (by decide : ¬ ((2 : Int32) = (0 : Int32)))).2 (by decide) (by decide) kk) ?_
  refine go_of (B := (s₁.setTop (mkF m 35 #[.val (.ref t), .val (.ref tt), .unset] [(.int (0 : Int32))]))) (fun _ kk => XS.iconst X0.here hx rfl (hb hby d11_34) kk) ?_
  refine go_end X0 (v := some (.int (nar .boolean (0 : Int32)))) (fun h => by rw [Bd.returns] at h; cases h) Bd.notSynchronized (by decide) (by decide) (Q := (Q_str_lat_2_0 Z t tt c0 c1 k kk h0 n0)) ?_ (fun fs hr => retN X0 hx (t := .boolean) Bd.returns (by simp) (hb hby d11_35) hr)
  show (fun (v : Option Value) (h : Heap) (L : List Loc) => v = some (.int (own_eqv [c0, c1] [])) ∧ Fr n0 L ∧ h = h0) (some (.int (nar .boolean (0 : Int32)))) s₁.heap _
  rw [e0]
  refine ⟨?_, N0, rfl⟩
  simp [own_eqv, nar]
def Q_str_lat_2_1 (Z : State) (t : Addr) (tt : Addr) (c0 : Int32) (c1 : Int32) (d0 : Int32) (k : ClassId) (kk : ClassId) (h0 : Heap) (n0 : Nat) (v : Option Value) (h : Heap) (L : List Loc) : Prop := v = some (.int (own_eqv [c0, c1] [d0])) ∧ Fr n0 L ∧ h = h0
theorem ef_str_lat_2_1 (m : MethodId) (t : Addr) (tt : Addr)  : entryFrame m #[(.ref t), (.ref tt)] 3 = mkF m 0 #[.val (.ref t), .val (.ref tt), .unset] [] := by first | (simp [entryFrame, mkF, argsToLocals, Value.category]; done) | rfl
set_option maxRecDepth 65536 in
set_option maxHeartbeats 40000000 in
theorem str_lat_2_1 (l : Launch) (Z : State) (a0 : Array Value) (hw : ∀ d ∈ tables_1, d.before a0 Z = true) (ws : List Jvm.Cond) (t : Addr) (tt : Addr) (c0 : Int32) (c1 : Int32) (d0 : Int32) (k : ClassId) (kk : ClassId) (h0 : Heap) (n0 : Nat) (Z0 : n0 ≤ h0.size) (Vt : Arv Z h0 t k .byte 2 [(.int c0), (.int c1)] (.int 0)) (Vtt : Arv Z h0 tt kk .byte 1 [(.int d0)] (.int 0)) :
    MetFree l (⟨"java/lang/StringLatin1", "equals", "([B[B)Z"⟩ : MethodName) (head1 (Jvm.Cond.code (⟨"java/lang/StringLatin1", "equals", "([B[B)Z"⟩ : MethodName) jdk_43_method_13_code 3 (some .boolean) :: ws) ({ frames := 0, cells := 0, slots := 0, locals := 0 } : Room)) (fun aa' U1' => aa' = #[(.ref t), (.ref tt)] ∧ Z.Warmed39 U1'.vm ∧ U1'.heap = h0) (fun _ _ _ _ _ => True) (fun _ U1' oo' U2' => ∃ vv' LL', oo' = .returned vv' ∧ (Q_str_lat_2_1 Z t tt c0 c1 d0 k kk h0 n0) vv' U2'.heap LL' ∧ FrameEnd U1' oo' U2' LL' ({ frames := 0, cells := 0, slots := 0, locals := 0 } : Room).cells ({ frames := 0, cells := 0, slots := 0, locals := 0 } : Room).slots) := by
  refine MetFree.of_bodySF (plainFor_of_name pn_java_lang_StringLatin1) hisR ?_
  intro p e s m args below meth c s₁ Bd hml0 hP hK
  obtain ⟨rfl, hZ, hh⟩ := hP
  have hx := Bd.exec
  have hby := Bd.bytes
  have hml : c.maxLocals = 3 := hml0
  have hown : s.vm.findClass "java/lang/StringLatin1" = some m.cls := findClass_of_methodNamed Bd.named
  have hnm := (name_of_methodNamed Bd.named Bd.method).1
  have X0 : Stand p l e ({ frames := 0, cells := 0, slots := 0, locals := 0 } : Room) s m #[(.ref t), (.ref tt)] below meth c s₁ [] 0 0 := Stand.of_body Bd
  have e0 : s₁.heap = h0 := by rw [← hh, Bd.state]; rfl
  have N0 := Fr.nil n0
  refine go_of (A := s₁.setTop (entryFrame m #[(.ref t), (.ref tt)] 3)) (B := s₁.setTop (mkF m 0 #[.val (.ref t), .val (.ref tt), .unset] [])) (fun _ kk' => castTop (ef_str_lat_2_1 m t tt) kk') ?_
  refine go_of (B := (s₁.setTop (mkF m 1 #[.val (.ref t), .val (.ref tt), .unset] [(.ref t)]))) (fun _ kk => XS.aloadN X0.here hx rfl (hb hby d11_0) rfl rfl kk) ?_
  obtain ⟨cl1, Ar1, q1, Sz1, Nn1, Hh1, G1⟩ := id (Vt)
  have ln1 := len_of Sz1 Nn1
  refine go_of (B := (s₁.setTop (mkF m 2 #[.val (.ref t), .val (.ref tt), .unset] [(.int (2 : Int32))]))) (fun _ kk => X0.arraylength hx (by rw [e0]; exact Ar1.1) (State.isArrayOf_alike hZ.alike Ar1.2.1) (g := (mkF m 1 #[.val (.ref t), .val (.ref tt), .unset] [(.ref t)])) rfl rfl (hb hby d11_1) _ (by rw [ln1]; exact kk)) ?_
  refine go_of (B := (s₁.setTop (mkF m 3 #[.val (.ref t), .val (.ref tt), .unset] [(.ref tt), (.int (2 : Int32))]))) (fun _ kk => XS.aloadN X0.here hx rfl (hb hby d11_2) rfl rfl kk) ?_
  obtain ⟨cl2, Ar2, q2, Sz2, Nn2, Hh2, G2⟩ := id (Vtt)
  have ln2 := len_of Sz2 Nn2
  refine go_of (B := (s₁.setTop (mkF m 4 #[.val (.ref t), .val (.ref tt), .unset] [(.int (1 : Int32)), (.int (2 : Int32))]))) (fun _ kk => X0.arraylength hx (by rw [e0]; exact Ar2.1) (State.isArrayOf_alike hZ.alike Ar2.2.1) (g := (mkF m 3 #[.val (.ref t), .val (.ref tt), .unset] [(.ref tt), (.int (2 : Int32))])) rfl rfl (hb hby d11_3) _ (by rw [ln2]; exact kk)) ?_
  refine go_of (B := (s₁.setTop (mkF m 34 #[.val (.ref t), .val (.ref tt), .unset] []))) (fun _ kk => XS.icmpYes X0.here hx rfl (pc0 := 4) (pc' := 34) rfl (hb hby d11_4) rfl (feq (by decide : ¬ ((2 : Int32) = (1 : Int32)))).2 (by decide) (by decide) kk) ?_
  refine go_of (B := (s₁.setTop (mkF m 35 #[.val (.ref t), .val (.ref tt), .unset] [(.int (0 : Int32))]))) (fun _ kk => XS.iconst X0.here hx rfl (hb hby d11_34) kk) ?_
  refine go_end X0 (v := some (.int (nar .boolean (0 : Int32)))) (fun h => by rw [Bd.returns] at h; cases h) Bd.notSynchronized (by decide) (by decide) (Q := (Q_str_lat_2_1 Z t tt c0 c1 d0 k kk h0 n0)) ?_ (fun fs hr => retN X0 hx (t := .boolean) Bd.returns (by simp) (hb hby d11_35) hr)
  show (fun (v : Option Value) (h : Heap) (L : List Loc) => v = some (.int (own_eqv [c0, c1] [d0])) ∧ Fr n0 L ∧ h = h0) (some (.int (nar .boolean (0 : Int32)))) s₁.heap _
  rw [e0]
  refine ⟨?_, N0, rfl⟩
  simp [own_eqv, nar]
def Q_str_lat_2_2 (Z : State) (t : Addr) (tt : Addr) (c0 : Int32) (c1 : Int32) (d0 : Int32) (d1 : Int32) (k : ClassId) (kk : ClassId) (h0 : Heap) (n0 : Nat) (v : Option Value) (h : Heap) (L : List Loc) : Prop := v = some (.int (own_eqv [c0, c1] [d0, d1])) ∧ Fr n0 L ∧ h = h0
theorem ef_str_lat_2_2 (m : MethodId) (t : Addr) (tt : Addr)  : entryFrame m #[(.ref t), (.ref tt)] 3 = mkF m 0 #[.val (.ref t), .val (.ref tt), .unset] [] := by first | (simp [entryFrame, mkF, argsToLocals, Value.category]; done) | rfl
set_option maxRecDepth 65536 in
set_option maxHeartbeats 40000000 in
theorem str_lat_2_2 (l : Launch) (Z : State) (a0 : Array Value) (hw : ∀ d ∈ tables_1, d.before a0 Z = true) (ws : List Jvm.Cond) (t : Addr) (tt : Addr) (c0 : Int32) (c1 : Int32) (d0 : Int32) (d1 : Int32) (k : ClassId) (kk : ClassId) (h0 : Heap) (n0 : Nat) (Z0 : n0 ≤ h0.size) (Vt : Arv Z h0 t k .byte 2 [(.int c0), (.int c1)] (.int 0)) (Vtt : Arv Z h0 tt kk .byte 2 [(.int d0), (.int d1)] (.int 0)) :
    MetFree l (⟨"java/lang/StringLatin1", "equals", "([B[B)Z"⟩ : MethodName) (head1 (Jvm.Cond.code (⟨"java/lang/StringLatin1", "equals", "([B[B)Z"⟩ : MethodName) jdk_43_method_13_code 3 (some .boolean) :: ws) ({ frames := 0, cells := 0, slots := 0, locals := 0 } : Room)) (fun aa' U1' => aa' = #[(.ref t), (.ref tt)] ∧ Z.Warmed39 U1'.vm ∧ U1'.heap = h0) (fun _ _ _ _ _ => True) (fun _ U1' oo' U2' => ∃ vv' LL', oo' = .returned vv' ∧ (Q_str_lat_2_2 Z t tt c0 c1 d0 d1 k kk h0 n0) vv' U2'.heap LL' ∧ FrameEnd U1' oo' U2' LL' ({ frames := 0, cells := 0, slots := 0, locals := 0 } : Room).cells ({ frames := 0, cells := 0, slots := 0, locals := 0 } : Room).slots) := by
  refine MetFree.of_bodySF (plainFor_of_name pn_java_lang_StringLatin1) hisR ?_
  intro p e s m args below meth c s₁ Bd hml0 hP hK
  obtain ⟨rfl, hZ, hh⟩ := hP
  have hx := Bd.exec
  have hby := Bd.bytes
  have hml : c.maxLocals = 3 := hml0
  have hown : s.vm.findClass "java/lang/StringLatin1" = some m.cls := findClass_of_methodNamed Bd.named
  have hnm := (name_of_methodNamed Bd.named Bd.method).1
  have X0 : Stand p l e ({ frames := 0, cells := 0, slots := 0, locals := 0 } : Room) s m #[(.ref t), (.ref tt)] below meth c s₁ [] 0 0 := Stand.of_body Bd
  have e0 : s₁.heap = h0 := by rw [← hh, Bd.state]; rfl
  have N0 := Fr.nil n0
  refine go_of (A := s₁.setTop (entryFrame m #[(.ref t), (.ref tt)] 3)) (B := s₁.setTop (mkF m 0 #[.val (.ref t), .val (.ref tt), .unset] [])) (fun _ kk' => castTop (ef_str_lat_2_2 m t tt) kk') ?_
  refine go_of (B := (s₁.setTop (mkF m 1 #[.val (.ref t), .val (.ref tt), .unset] [(.ref t)]))) (fun _ kk => XS.aloadN X0.here hx rfl (hb hby d11_0) rfl rfl kk) ?_
  obtain ⟨cl1, Ar1, q1, Sz1, Nn1, Hh1, G1⟩ := id (Vt)
  have ln1 := len_of Sz1 Nn1
  refine go_of (B := (s₁.setTop (mkF m 2 #[.val (.ref t), .val (.ref tt), .unset] [(.int (2 : Int32))]))) (fun _ kk => X0.arraylength hx (by rw [e0]; exact Ar1.1) (State.isArrayOf_alike hZ.alike Ar1.2.1) (g := (mkF m 1 #[.val (.ref t), .val (.ref tt), .unset] [(.ref t)])) rfl rfl (hb hby d11_1) _ (by rw [ln1]; exact kk)) ?_
  refine go_of (B := (s₁.setTop (mkF m 3 #[.val (.ref t), .val (.ref tt), .unset] [(.ref tt), (.int (2 : Int32))]))) (fun _ kk => XS.aloadN X0.here hx rfl (hb hby d11_2) rfl rfl kk) ?_
  obtain ⟨cl2, Ar2, q2, Sz2, Nn2, Hh2, G2⟩ := id (Vtt)
  have ln2 := len_of Sz2 Nn2
  refine go_of (B := (s₁.setTop (mkF m 4 #[.val (.ref t), .val (.ref tt), .unset] [(.int (2 : Int32)), (.int (2 : Int32))]))) (fun _ kk => X0.arraylength hx (by rw [e0]; exact Ar2.1) (State.isArrayOf_alike hZ.alike Ar2.2.1) (g := (mkF m 3 #[.val (.ref t), .val (.ref tt), .unset] [(.ref tt), (.int (2 : Int32))])) rfl rfl (hb hby d11_3) _ (by rw [ln2]; exact kk)) ?_
  refine go_of (B := (s₁.setTop (mkF m 7 #[.val (.ref t), .val (.ref tt), .unset] []))) (fun _ kk => XS.icmpNo X0.here hx rfl (hb hby d11_4) rfl (teq (by decide : (2 : Int32) = (2 : Int32))).2 kk) ?_
  refine go_of (B := (s₁.setTop (mkF m 8 #[.val (.ref t), .val (.ref tt), .unset] [(.int (0 : Int32))]))) (fun _ kk => XS.iconst X0.here hx rfl (hb hby d11_7) kk) ?_
  refine go_of (B := (s₁.setTop (mkF m 9 #[.val (.ref t), .val (.ref tt), .val (.int (0 : Int32))] []))) (fun _ kk => XS.istoreN X0.here hx rfl (hb hby d11_8) rfl rfl kk) ?_
  refine go_of (B := (s₁.setTop (mkF m 10 #[.val (.ref t), .val (.ref tt), .val (.int (0 : Int32))] [(.int (0 : Int32))]))) (fun _ kk => XS.iloadN X0.here hx rfl (hb hby d11_9) rfl kk) ?_
  refine go_of (B := (s₁.setTop (mkF m 11 #[.val (.ref t), .val (.ref tt), .val (.int (0 : Int32))] [(.ref t), (.int (0 : Int32))]))) (fun _ kk => XS.aloadN X0.here hx rfl (hb hby d11_10) rfl rfl kk) ?_
  obtain ⟨cl3, Ar3, q3, Sz3, Nn3, Hh3, G3⟩ := id (Vt)
  have ln3 := len_of Sz3 Nn3
  refine go_of (B := (s₁.setTop (mkF m 12 #[.val (.ref t), .val (.ref tt), .val (.int (0 : Int32))] [(.int (2 : Int32)), (.int (0 : Int32))]))) (fun _ kk => X0.arraylength hx (by rw [e0]; exact Ar3.1) (State.isArrayOf_alike hZ.alike Ar3.2.1) (g := (mkF m 11 #[.val (.ref t), .val (.ref tt), .val (.int (0 : Int32))] [(.ref t), (.int (0 : Int32))])) rfl rfl (hb hby d11_11) _ (by rw [ln3]; exact kk)) ?_
  refine go_of (B := (s₁.setTop (mkF m 15 #[.val (.ref t), .val (.ref tt), .val (.int (0 : Int32))] []))) (fun _ kk => XS.icmpNo X0.here hx rfl (hb hby d11_12) rfl (tlt (by decide : (0 : Int32) < (2 : Int32))).2.1 kk) ?_
  refine go_of (B := (s₁.setTop (mkF m 16 #[.val (.ref t), .val (.ref tt), .val (.int (0 : Int32))] [(.ref t)]))) (fun _ kk => XS.aloadN X0.here hx rfl (hb hby d11_15) rfl rfl kk) ?_
  refine go_of (B := (s₁.setTop (mkF m 17 #[.val (.ref t), .val (.ref tt), .val (.int (0 : Int32))] [(.int (0 : Int32)), (.ref t)]))) (fun _ kk => XS.iloadN X0.here hx rfl (hb hby d11_16) rfl kk) ?_
  obtain ⟨cl4, Ar4, q4, Sz4, Nn4, Hh4, G4⟩ := id (Vt)
  refine go_of (B := (s₁.setTop (mkF m 18 #[.val (.ref t), .val (.ref tt), .val (.int (0 : Int32))] [(.int c0)]))) (fun _ kk => X0.baloadBytes hx (j := (0 : Int32)) (v := (.int c0)) (by rw [e0]; exact Ar4.1) (State.isArrayOf_alike hZ.alike Ar4.2.1) Ar4.2.2 (inb_of Sz4 ⟨by decide, by decide⟩) (Hh4.at (inb_of Sz4 ⟨by decide, by decide⟩) rfl) (g := (mkF m 17 #[.val (.ref t), .val (.ref tt), .val (.int (0 : Int32))] [(.int (0 : Int32)), (.ref t)])) rfl rfl (hb hby d11_17) _ kk) ?_
  refine go_of (B := (s₁.setTop (mkF m 19 #[.val (.ref t), .val (.ref tt), .val (.int (0 : Int32))] [(.ref tt), (.int c0)]))) (fun _ kk => XS.aloadN X0.here hx rfl (hb hby d11_18) rfl rfl kk) ?_
  refine go_of (B := (s₁.setTop (mkF m 20 #[.val (.ref t), .val (.ref tt), .val (.int (0 : Int32))] [(.int (0 : Int32)), (.ref tt), (.int c0)]))) (fun _ kk => XS.iloadN X0.here hx rfl (hb hby d11_19) rfl kk) ?_
  obtain ⟨cl5, Ar5, q5, Sz5, Nn5, Hh5, G5⟩ := id (Vtt)
  refine go_of (B := (s₁.setTop (mkF m 21 #[.val (.ref t), .val (.ref tt), .val (.int (0 : Int32))] [(.int d0), (.int c0)]))) (fun _ kk => X0.baloadBytes hx (j := (0 : Int32)) (v := (.int d0)) (by rw [e0]; exact Ar5.1) (State.isArrayOf_alike hZ.alike Ar5.2.1) Ar5.2.2 (inb_of Sz5 ⟨by decide, by decide⟩) (Hh5.at (inb_of Sz5 ⟨by decide, by decide⟩) rfl) (g := (mkF m 20 #[.val (.ref t), .val (.ref tt), .val (.int (0 : Int32))] [(.int (0 : Int32)), (.ref tt), (.int c0)])) rfl rfl (hb hby d11_20) _ kk) ?_
  by_cases hc6 : c0 = d0
  · refine go_of (B := (s₁.setTop (mkF m 26 #[.val (.ref t), .val (.ref tt), .val (.int (0 : Int32))] []))) (fun _ kk => XS.icmpYes X0.here hx rfl (pc0 := 21) (pc' := 26) rfl (hb hby d11_21) rfl (teq hc6).1 (by decide) (by decide) kk) ?_
    refine go_of (B := (s₁.setTop (mkF m 29 #[.val (.ref t), .val (.ref tt), .val (.int (1 : Int32))] []))) (fun _ kk => XS.iinc X0.here hx rfl (hb hby d11_26) rfl rfl kk) ?_
    refine go_of (B := (s₁.setTop (mkF m 9 #[.val (.ref t), .val (.ref tt), .val (.int (1 : Int32))] []))) (fun _ kk => XS.goto X0.here hx rfl (pc0 := 29) (pc' := 9) rfl (hb hby d11_29) (by decide) (by decide) kk) ?_
    refine go_of (B := (s₁.setTop (mkF m 10 #[.val (.ref t), .val (.ref tt), .val (.int (1 : Int32))] [(.int (1 : Int32))]))) (fun _ kk => XS.iloadN X0.here hx rfl (hb hby d11_9) rfl kk) ?_
    refine go_of (B := (s₁.setTop (mkF m 11 #[.val (.ref t), .val (.ref tt), .val (.int (1 : Int32))] [(.ref t), (.int (1 : Int32))]))) (fun _ kk => XS.aloadN X0.here hx rfl (hb hby d11_10) rfl rfl kk) ?_
    obtain ⟨cl7, Ar7, q7, Sz7, Nn7, Hh7, G7⟩ := id (Vt)
    have ln7 := len_of Sz7 Nn7
    refine go_of (B := (s₁.setTop (mkF m 12 #[.val (.ref t), .val (.ref tt), .val (.int (1 : Int32))] [(.int (2 : Int32)), (.int (1 : Int32))]))) (fun _ kk => X0.arraylength hx (by rw [e0]; exact Ar7.1) (State.isArrayOf_alike hZ.alike Ar7.2.1) (g := (mkF m 11 #[.val (.ref t), .val (.ref tt), .val (.int (1 : Int32))] [(.ref t), (.int (1 : Int32))])) rfl rfl (hb hby d11_11) _ (by rw [ln7]; exact kk)) ?_
    refine go_of (B := (s₁.setTop (mkF m 15 #[.val (.ref t), .val (.ref tt), .val (.int (1 : Int32))] []))) (fun _ kk => XS.icmpNo X0.here hx rfl (hb hby d11_12) rfl (tlt (by decide : (1 : Int32) < (2 : Int32))).2.1 kk) ?_
    refine go_of (B := (s₁.setTop (mkF m 16 #[.val (.ref t), .val (.ref tt), .val (.int (1 : Int32))] [(.ref t)]))) (fun _ kk => XS.aloadN X0.here hx rfl (hb hby d11_15) rfl rfl kk) ?_
    refine go_of (B := (s₁.setTop (mkF m 17 #[.val (.ref t), .val (.ref tt), .val (.int (1 : Int32))] [(.int (1 : Int32)), (.ref t)]))) (fun _ kk => XS.iloadN X0.here hx rfl (hb hby d11_16) rfl kk) ?_
    obtain ⟨cl8, Ar8, q8, Sz8, Nn8, Hh8, G8⟩ := id (Vt)
    refine go_of (B := (s₁.setTop (mkF m 18 #[.val (.ref t), .val (.ref tt), .val (.int (1 : Int32))] [(.int c1)]))) (fun _ kk => X0.baloadBytes hx (j := (1 : Int32)) (v := (.int c1)) (by rw [e0]; exact Ar8.1) (State.isArrayOf_alike hZ.alike Ar8.2.1) Ar8.2.2 (inb_of Sz8 ⟨by decide, by decide⟩) (Hh8.at (inb_of Sz8 ⟨by decide, by decide⟩) rfl) (g := (mkF m 17 #[.val (.ref t), .val (.ref tt), .val (.int (1 : Int32))] [(.int (1 : Int32)), (.ref t)])) rfl rfl (hb hby d11_17) _ kk) ?_
    refine go_of (B := (s₁.setTop (mkF m 19 #[.val (.ref t), .val (.ref tt), .val (.int (1 : Int32))] [(.ref tt), (.int c1)]))) (fun _ kk => XS.aloadN X0.here hx rfl (hb hby d11_18) rfl rfl kk) ?_
    refine go_of (B := (s₁.setTop (mkF m 20 #[.val (.ref t), .val (.ref tt), .val (.int (1 : Int32))] [(.int (1 : Int32)), (.ref tt), (.int c1)]))) (fun _ kk => XS.iloadN X0.here hx rfl (hb hby d11_19) rfl kk) ?_
    obtain ⟨cl9, Ar9, q9, Sz9, Nn9, Hh9, G9⟩ := id (Vtt)
    refine go_of (B := (s₁.setTop (mkF m 21 #[.val (.ref t), .val (.ref tt), .val (.int (1 : Int32))] [(.int d1), (.int c1)]))) (fun _ kk => X0.baloadBytes hx (j := (1 : Int32)) (v := (.int d1)) (by rw [e0]; exact Ar9.1) (State.isArrayOf_alike hZ.alike Ar9.2.1) Ar9.2.2 (inb_of Sz9 ⟨by decide, by decide⟩) (Hh9.at (inb_of Sz9 ⟨by decide, by decide⟩) rfl) (g := (mkF m 20 #[.val (.ref t), .val (.ref tt), .val (.int (1 : Int32))] [(.int (1 : Int32)), (.ref tt), (.int c1)])) rfl rfl (hb hby d11_20) _ kk) ?_
    by_cases hc10 : c1 = d1
    · refine go_of (B := (s₁.setTop (mkF m 26 #[.val (.ref t), .val (.ref tt), .val (.int (1 : Int32))] []))) (fun _ kk => XS.icmpYes X0.here hx rfl (pc0 := 21) (pc' := 26) rfl (hb hby d11_21) rfl (teq hc10).1 (by decide) (by decide) kk) ?_
      refine go_of (B := (s₁.setTop (mkF m 29 #[.val (.ref t), .val (.ref tt), .val (.int (2 : Int32))] []))) (fun _ kk => XS.iinc X0.here hx rfl (hb hby d11_26) rfl rfl kk) ?_
      refine go_of (B := (s₁.setTop (mkF m 9 #[.val (.ref t), .val (.ref tt), .val (.int (2 : Int32))] []))) (fun _ kk => XS.goto X0.here hx rfl (pc0 := 29) (pc' := 9) rfl (hb hby d11_29) (by decide) (by decide) kk) ?_
      refine go_of (B := (s₁.setTop (mkF m 10 #[.val (.ref t), .val (.ref tt), .val (.int (2 : Int32))] [(.int (2 : Int32))]))) (fun _ kk => XS.iloadN X0.here hx rfl (hb hby d11_9) rfl kk) ?_
      refine go_of (B := (s₁.setTop (mkF m 11 #[.val (.ref t), .val (.ref tt), .val (.int (2 : Int32))] [(.ref t), (.int (2 : Int32))]))) (fun _ kk => XS.aloadN X0.here hx rfl (hb hby d11_10) rfl rfl kk) ?_
      obtain ⟨cl11, Ar11, q11, Sz11, Nn11, Hh11, G11⟩ := id (Vt)
      have ln11 := len_of Sz11 Nn11
      refine go_of (B := (s₁.setTop (mkF m 12 #[.val (.ref t), .val (.ref tt), .val (.int (2 : Int32))] [(.int (2 : Int32)), (.int (2 : Int32))]))) (fun _ kk => X0.arraylength hx (by rw [e0]; exact Ar11.1) (State.isArrayOf_alike hZ.alike Ar11.2.1) (g := (mkF m 11 #[.val (.ref t), .val (.ref tt), .val (.int (2 : Int32))] [(.ref t), (.int (2 : Int32))])) rfl rfl (hb hby d11_11) _ (by rw [ln11]; exact kk)) ?_
      refine go_of (B := (s₁.setTop (mkF m 32 #[.val (.ref t), .val (.ref tt), .val (.int (2 : Int32))] []))) (fun _ kk => XS.icmpYes X0.here hx rfl (pc0 := 12) (pc' := 32) rfl (hb hby d11_12) rfl (flt (by decide : ¬ ((2 : Int32) < (2 : Int32)))).2.1 (by decide) (by decide) kk) ?_
      refine go_of (B := (s₁.setTop (mkF m 33 #[.val (.ref t), .val (.ref tt), .val (.int (2 : Int32))] [(.int (1 : Int32))]))) (fun _ kk => XS.iconst X0.here hx rfl (hb hby d11_32) kk) ?_
      refine go_end X0 (v := some (.int (nar .boolean (1 : Int32)))) (fun h => by rw [Bd.returns] at h; cases h) Bd.notSynchronized (by decide) (by decide) (Q := (Q_str_lat_2_2 Z t tt c0 c1 d0 d1 k kk h0 n0)) ?_ (fun fs hr => retN X0 hx (t := .boolean) Bd.returns (by simp) (hb hby d11_33) hr)
      show (fun (v : Option Value) (h : Heap) (L : List Loc) => v = some (.int (own_eqv [c0, c1] [d0, d1])) ∧ Fr n0 L ∧ h = h0) (some (.int (nar .boolean (1 : Int32)))) s₁.heap _
      rw [e0]
      refine ⟨?_, N0, rfl⟩
      simp [own_eqv, nar, hc6, hc10]
    · refine go_of (B := (s₁.setTop (mkF m 24 #[.val (.ref t), .val (.ref tt), .val (.int (1 : Int32))] []))) (fun _ kk => XS.icmpNo X0.here hx rfl (hb hby d11_21) rfl (feq hc10).1 kk) ?_
      refine go_of (B := (s₁.setTop (mkF m 25 #[.val (.ref t), .val (.ref tt), .val (.int (1 : Int32))] [(.int (0 : Int32))]))) (fun _ kk => XS.iconst X0.here hx rfl (hb hby d11_24) kk) ?_
      refine go_end X0 (v := some (.int (nar .boolean (0 : Int32)))) (fun h => by rw [Bd.returns] at h; cases h) Bd.notSynchronized (by decide) (by decide) (Q := (Q_str_lat_2_2 Z t tt c0 c1 d0 d1 k kk h0 n0)) ?_ (fun fs hr => retN X0 hx (t := .boolean) Bd.returns (by simp) (hb hby d11_25) hr)
      show (fun (v : Option Value) (h : Heap) (L : List Loc) => v = some (.int (own_eqv [c0, c1] [d0, d1])) ∧ Fr n0 L ∧ h = h0) (some (.int (nar .boolean (0 : Int32)))) s₁.heap _
      rw [e0]
      refine ⟨?_, N0, rfl⟩
      simp [own_eqv, nar, hc6, hc10]
  · refine go_of (B := (s₁.setTop (mkF m 24 #[.val (.ref t), .val (.ref tt), .val (.int (0 : Int32))] []))) (fun _ kk => XS.icmpNo X0.here hx rfl (hb hby d11_21) rfl (feq hc6).1 kk) ?_
    refine go_of (B := (s₁.setTop (mkF m 25 #[.val (.ref t), .val (.ref tt), .val (.int (0 : Int32))] [(.int (0 : Int32))]))) (fun _ kk => XS.iconst X0.here hx rfl (hb hby d11_24) kk) ?_
    refine go_end X0 (v := some (.int (nar .boolean (0 : Int32)))) (fun h => by rw [Bd.returns] at h; cases h) Bd.notSynchronized (by decide) (by decide) (Q := (Q_str_lat_2_2 Z t tt c0 c1 d0 d1 k kk h0 n0)) ?_ (fun fs hr => retN X0 hx (t := .boolean) Bd.returns (by simp) (hb hby d11_25) hr)
    show (fun (v : Option Value) (h : Heap) (L : List Loc) => v = some (.int (own_eqv [c0, c1] [d0, d1])) ∧ Fr n0 L ∧ h = h0) (some (.int (nar .boolean (0 : Int32)))) s₁.heap _
    rw [e0]
    refine ⟨?_, N0, rfl⟩
    simp [own_eqv, nar, hc6]
theorem d10_0 : decode jdk_42_method_66_code 0 = .ok (.aload_n 0, 1) := by decide +kernel
theorem d10_1 : decode jdk_42_method_66_code 1 = .ok (.aload_n 1, 1) := by decide +kernel
theorem d10_2 : decode jdk_42_method_66_code 2 = .ok (.if_acmp .ne 5, 3) := by decide +kernel
theorem d10_5 : decode jdk_42_method_66_code 5 = .ok (.iconst 1, 1) := by decide +kernel
theorem d10_6 : decode jdk_42_method_66_code 6 = .ok (.ireturn, 1) := by decide +kernel
def Q_str_eq_0_0 (Z : State) (a : Addr) (bb : Addr) (gC : Int32) (h0 : Heap) (n0 : Nat) (v : Option Value) (h : Heap) (L : List Loc) : Prop := v = some (.int (own_eqv [] [])) ∧ Fr n0 L ∧ h = h0
theorem d10_7 : decode jdk_42_method_66_code 7 = .ok (.aload_n 1, 1) := by decide +kernel
theorem d10_8 : decode jdk_42_method_66_code 8 = .ok (.instanceof 10, 3) := by decide +kernel
theorem d10_11 : decode jdk_42_method_66_code 11 = .ok (.ifCond .eq 43, 3) := by decide +kernel
theorem d10_14 : decode jdk_42_method_66_code 14 = .ok (.aload_n 1, 1) := by decide +kernel
theorem d10_15 : decode jdk_42_method_66_code 15 = .ok (.checkcast 10, 3) := by decide +kernel
theorem d10_18 : decode jdk_42_method_66_code 18 = .ok (.astore_n 2, 1) := by decide +kernel
theorem d10_19 : decode jdk_42_method_66_code 19 = .ok (.getstatic 38, 3) := by decide +kernel
theorem d10_22 : decode jdk_42_method_66_code 22 = .ok (.ifCond .eq 14, 3) := by decide +kernel
theorem d10_25 : decode jdk_42_method_66_code 25 = .ok (.aload_n 0, 1) := by decide +kernel
theorem d10_26 : decode jdk_42_method_66_code 26 = .ok (.getfield 15, 3) := by decide +kernel
theorem d10_29 : decode jdk_42_method_66_code 29 = .ok (.aload_n 2, 1) := by decide +kernel
theorem d10_30 : decode jdk_42_method_66_code 30 = .ok (.getfield 15, 3) := by decide +kernel
theorem d10_33 : decode jdk_42_method_66_code 33 = .ok (.if_icmp .ne 21, 3) := by decide +kernel
theorem d10_36 : decode jdk_42_method_66_code 36 = .ok (.aload_n 0, 1) := by decide +kernel
theorem d10_37 : decode jdk_42_method_66_code 37 = .ok (.getfield 9, 3) := by decide +kernel
theorem d10_40 : decode jdk_42_method_66_code 40 = .ok (.aload_n 2, 1) := by decide +kernel
theorem d10_41 : decode jdk_42_method_66_code 41 = .ok (.getfield 9, 3) := by decide +kernel
theorem d10_44 : decode jdk_42_method_66_code 44 = .ok (.invokestatic 541, 3) := by decide +kernel
theorem pd___B_B_Z : parseMethodDescriptor "([B[B)Z" = some ⟨[(.array .byte), (.array .byte)], some .boolean⟩ := by decide +kernel
theorem d10_47 : decode jdk_42_method_66_code 47 = .ok (.ifCond .eq 7, 3) := by decide +kernel
theorem d10_54 : decode jdk_42_method_66_code 54 = .ok (.iconst 0, 1) := by decide +kernel
theorem d10_55 : decode jdk_42_method_66_code 55 = .ok (.ireturn, 1) := by decide +kernel
theorem d10_50 : decode jdk_42_method_66_code 50 = .ok (.iconst 1, 1) := by decide +kernel
theorem d10_51 : decode jdk_42_method_66_code 51 = .ok (.goto 4, 3) := by decide +kernel
theorem pn_java_lang_String : plainName "java/lang/String" = true := by first | (simp [plainName, overriddenIn]; done) | decide +kernel
theorem ef_str_eq_0_0 (m : MethodId) (a : Addr) (bb : Addr)  : entryFrame m #[(.ref a), (.ref bb)] 3 = mkF m 0 #[.val (.ref a), .val (.ref bb), .unset] [] := by first | (simp [entryFrame, mkF, argsToLocals, Value.category]; done) | rfl
set_option maxRecDepth 65536 in
set_option maxHeartbeats 40000000 in
theorem str_eq_0_0 (l : Launch) (Z : State) (a0 : Array Value) (hw : ∀ d ∈ tables_1, d.before a0 Z = true) (ws : List Jvm.Cond) (a : Addr) (bb : Addr) (gC : Int32) (h0 : Heap) (n0 : Nat) (Z0 : n0 ≤ h0.size) (O : Old Z n0 h0) (SC : Sta Z Z.heap "java/lang/String" "COMPACT_STRINGS" "Z" (.int gC)) (hgC : ¬ gC = (0 : Int32)) (S1 : Str Z h0 a 0 []) (S2 : Str Z h0 bb 0 []) (hab : a = bb → ([] : List Int32) = []) :
    MetFree l (⟨"java/lang/String", "equals", "(Ljava/lang/Object;)Z"⟩ : MethodName) (head1 (Jvm.Cond.code (⟨"java/lang/String", "equals", "(Ljava/lang/Object;)Z"⟩ : MethodName) jdk_42_method_66_code 3 (some .boolean) :: ws) ({ frames := 1, cells := 0, slots := 0, locals := 14 } : Room)) (fun aa' U1' => aa' = #[(.ref a), (.ref bb)] ∧ Z.Warmed39 U1'.vm ∧ U1'.heap = h0) (fun _ _ _ _ _ => True) (fun _ U1' oo' U2' => ∃ vv' LL', oo' = .returned vv' ∧ (Q_str_eq_0_0 Z a bb gC h0 n0) vv' U2'.heap LL' ∧ FrameEnd U1' oo' U2' LL' ({ frames := 1, cells := 0, slots := 0, locals := 14 } : Room).cells ({ frames := 1, cells := 0, slots := 0, locals := 14 } : Room).slots) := by
  refine MetFree.of_bodySF (plainFor_of_name pn_java_lang_String) hisR ?_
  intro p e s m args below meth c s₁ Bd hml0 hP hK
  obtain ⟨rfl, hZ, hh⟩ := hP
  have hx := Bd.exec
  have hby := Bd.bytes
  have hml : c.maxLocals = 3 := hml0
  have hown : s.vm.findClass "java/lang/String" = some m.cls := findClass_of_methodNamed Bd.named
  have hnm := (name_of_methodNamed Bd.named Bd.method).1
  have X0 : Stand p l e ({ frames := 1, cells := 0, slots := 0, locals := 14 } : Room) s m #[(.ref a), (.ref bb)] below meth c s₁ [] 0 0 := Stand.of_body Bd
  have e0 : s₁.heap = h0 := by rw [← hh, Bd.state]; rfl
  have N0 := Fr.nil n0
  obtain ⟨t, k, Ea, Fc, Fv, Va, hcs⟩ := S1
  obtain ⟨tt, kk, Eb, Fcb, Fvb, Vb, hds⟩ := S2
  refine go_of (A := s₁.setTop (entryFrame m #[(.ref a), (.ref bb)] 3)) (B := s₁.setTop (mkF m 0 #[.val (.ref a), .val (.ref bb), .unset] [])) (fun _ kk' => castTop (ef_str_eq_0_0 m a bb) kk') ?_
  refine go_of (B := (s₁.setTop (mkF m 1 #[.val (.ref a), .val (.ref bb), .unset] [(.ref a)]))) (fun _ kk => XS.aloadN X0.here hx rfl (hb hby d10_0) rfl rfl kk) ?_
  refine go_of (B := (s₁.setTop (mkF m 2 #[.val (.ref a), .val (.ref bb), .unset] [(.ref bb), (.ref a)]))) (fun _ kk => XS.aloadN X0.here hx rfl (hb hby d10_1) rfl rfl kk) ?_
  by_cases ha1 : a = bb
  · refine go_of (B := (s₁.setTop (mkF m 5 #[.val (.ref a), .val (.ref bb), .unset] []))) (fun _ kk => Jvm.RoadKit.acmp (g := (mkF m 2 #[.val (.ref a), .val (.ref bb), .unset] [(.ref bb), (.ref a)])) X0 hx rfl rfl rfl (pc0 := 2) (pc' := 5) (same := true) rfl (hb hby d10_2) rfl (decide_eq_true (congrArg Value.ref ha1)) (by decide) (by decide) kk) ?_
    refine go_of (B := (s₁.setTop (mkF m 6 #[.val (.ref a), .val (.ref bb), .unset] [(.int (1 : Int32))]))) (fun _ kk => XS.iconst X0.here hx rfl (hb hby d10_5) kk) ?_
    refine go_end X0 (v := some (.int (nar .boolean (1 : Int32)))) (fun h => by rw [Bd.returns] at h; cases h) Bd.notSynchronized (by decide) (by decide) (Q := (Q_str_eq_0_0 Z a bb gC h0 n0)) ?_ (fun fs hr => retN X0 hx (t := .boolean) Bd.returns (by simp) (hb hby d10_6) hr)
    show (fun (v : Option Value) (h : Heap) (L : List Loc) => v = some (.int (own_eqv [] [])) ∧ Fr n0 L ∧ h = h0) (some (.int (nar .boolean (1 : Int32)))) s₁.heap _
    rw [e0]
    refine ⟨?_, N0, rfl⟩
    have hq := hab ha1
    simp only [own_eqv, if_pos hq]; rfl
  · refine go_of (B := (s₁.setTop (mkF m 7 #[.val (.ref a), .val (.ref bb), .unset] []))) (fun _ kk => Jvm.RoadKit.acmp (g := (mkF m 2 #[.val (.ref a), .val (.ref bb), .unset] [(.ref bb), (.ref a)])) X0 hx rfl rfl rfl (pc0 := 2) (pc' := 7) (same := false) rfl (hb hby d10_2) rfl (decide_eq_false fun q => ha1 (Value.ref.inj q)) (by decide) (by decide) kk) ?_
    refine go_of (B := (s₁.setTop (mkF m 8 #[.val (.ref a), .val (.ref bb), .unset] [(.ref bb)]))) (fun _ kk => XS.aloadN X0.here hx rfl (hb hby d10_7) rfl rfl kk) ?_
    obtain ⟨T2, X2, e2, st2⟩ := instY X0 hx hZ hown (hw _ (List.mem_of_getElem? (i := 65) rfl)) e0 (Ins.self Eb) (g := (mkF m 8 #[.val (.ref a), .val (.ref bb), .unset] [(.ref bb)])) rfl rfl (hb hby d10_8)
    refine go_of (B := (T2.setTop (mkF m 11 #[.val (.ref a), .val (.ref bb), .unset] [(.int (1 : Int32))]))) (st2) ?_
    refine go_of (B := (T2.setTop (mkF m 14 #[.val (.ref a), .val (.ref bb), .unset] []))) (fun _ kk => XS.ifNo X2.here hx rfl (hb hby d10_11) rfl ((if0 _ _).trans (feq (by decide : ¬ ((1 : Int32) = (0 : Int32)))).1) kk) ?_
    refine go_of (B := (T2.setTop (mkF m 15 #[.val (.ref a), .val (.ref bb), .unset] [(.ref bb)]))) (fun _ kk => XS.aloadN X2.here hx rfl (hb hby d10_14) rfl rfl kk) ?_
    obtain ⟨T3, X3, e3, st3⟩ := castY X2 hx hZ hown (hw _ (List.mem_of_getElem? (i := 65) rfl)) e2 (Ins.self Eb) (g := (mkF m 15 #[.val (.ref a), .val (.ref bb), .unset] [(.ref bb)])) rfl rfl (hb hby d10_15)
    refine go_of (B := (T3.setTop (mkF m 18 #[.val (.ref a), .val (.ref bb), .unset] [(.ref bb)]))) (st3) ?_
    refine go_of (B := (T3.setTop (mkF m 19 #[.val (.ref a), .val (.ref bb), .val (.ref bb)] []))) (fun _ kk => XS.astoreN X3.here hx rfl (hb hby d10_18) rfl rfl rfl kk) ?_
    obtain ⟨T4, X4, e4, st4⟩ := getS2 X3 hx hZ hown (host := "") (Or.inl (hw _ (List.mem_of_getElem? (i := 66) rfl))) Via.refl e3 (SC.ext O.2) (g := (mkF m 19 #[.val (.ref a), .val (.ref bb), .val (.ref bb)] [])) rfl (hb hby d10_19)
    refine go_of (B := (T4.setTop (mkF m 22 #[.val (.ref a), .val (.ref bb), .val (.ref bb)] [(.int gC)]))) (st4) ?_
    refine go_of (B := (T4.setTop (mkF m 25 #[.val (.ref a), .val (.ref bb), .val (.ref bb)] []))) (fun _ kk => XS.ifNo X4.here hx rfl (hb hby d10_22) rfl ((if0 _ _).trans (feq hgC).1) kk) ?_
    refine go_of (B := (T4.setTop (mkF m 26 #[.val (.ref a), .val (.ref bb), .val (.ref bb)] [(.ref a)]))) (fun _ kk => XS.aloadN X4.here hx rfl (hb hby d10_25) rfl rfl kk) ?_
    obtain ⟨T5, X5, e5, st5⟩ := getF X4 hx hZ hown (host := "") (Or.inl (hw _ (List.mem_of_getElem? (i := 31) rfl))) Via.refl e4 Fc (g := (mkF m 26 #[.val (.ref a), .val (.ref bb), .val (.ref bb)] [(.ref a)])) rfl rfl (hb hby d10_26)
    refine go_of (B := (T5.setTop (mkF m 29 #[.val (.ref a), .val (.ref bb), .val (.ref bb)] [(.int (0 : Int32))]))) (st5) ?_
    refine go_of (B := (T5.setTop (mkF m 30 #[.val (.ref a), .val (.ref bb), .val (.ref bb)] [(.ref bb), (.int (0 : Int32))]))) (fun _ kk => XS.aloadN X5.here hx rfl (hb hby d10_29) rfl rfl kk) ?_
    obtain ⟨T6, X6, e6, st6⟩ := getF X5 hx hZ hown (host := "") (Or.inl (hw _ (List.mem_of_getElem? (i := 31) rfl))) Via.refl e5 Fcb (g := (mkF m 30 #[.val (.ref a), .val (.ref bb), .val (.ref bb)] [(.ref bb), (.int (0 : Int32))])) rfl rfl (hb hby d10_30)
    refine go_of (B := (T6.setTop (mkF m 33 #[.val (.ref a), .val (.ref bb), .val (.ref bb)] [(.int (0 : Int32)), (.int (0 : Int32))]))) (st6) ?_
    refine go_of (B := (T6.setTop (mkF m 36 #[.val (.ref a), .val (.ref bb), .val (.ref bb)] []))) (fun _ kk => XS.icmpNo X6.here hx rfl (hb hby d10_33) rfl (teq (by decide : (0 : Int32) = (0 : Int32))).2 kk) ?_
    refine go_of (B := (T6.setTop (mkF m 37 #[.val (.ref a), .val (.ref bb), .val (.ref bb)] [(.ref a)]))) (fun _ kk => XS.aloadN X6.here hx rfl (hb hby d10_36) rfl rfl kk) ?_
    obtain ⟨T7, X7, e7, st7⟩ := getF X6 hx hZ hown (host := "") (Or.inl (hw _ (List.mem_of_getElem? (i := 30) rfl))) Via.refl e6 Fv (g := (mkF m 37 #[.val (.ref a), .val (.ref bb), .val (.ref bb)] [(.ref a)])) rfl rfl (hb hby d10_37)
    refine go_of (B := (T7.setTop (mkF m 40 #[.val (.ref a), .val (.ref bb), .val (.ref bb)] [(.ref t)]))) (st7) ?_
    refine go_of (B := (T7.setTop (mkF m 41 #[.val (.ref a), .val (.ref bb), .val (.ref bb)] [(.ref bb), (.ref t)]))) (fun _ kk => XS.aloadN X7.here hx rfl (hb hby d10_40) rfl rfl kk) ?_
    obtain ⟨T8, X8, e8, st8⟩ := getF X7 hx hZ hown (host := "") (Or.inl (hw _ (List.mem_of_getElem? (i := 30) rfl))) Via.refl e7 Fvb (g := (mkF m 41 #[.val (.ref a), .val (.ref bb), .val (.ref bb)] [(.ref bb), (.ref t)])) rfl rfl (hb hby d10_41)
    refine go_of (B := (T8.setTop (mkF m 44 #[.val (.ref a), .val (.ref bb), .val (.ref bb)] [(.ref tt), (.ref t)]))) (st8) ?_
    obtain ⟨_, _, ⟨T9, L9, k9, n9⟩, -, X9, ⟨Lc9, hQ9, l9, y9, z9⟩, st9⟩ := Jvm.LawKit.callS X8 hx (y := (⟨"java/lang/StringLatin1", "equals", "([B[B)Z"⟩ : MethodName)) hown (mvT hZ (hw _ (List.mem_of_getElem? (i := 67) rfl))) (mvT hZ (hw _ (List.mem_of_getElem? (i := 68) rfl))) (mvT hZ (hw _ (List.mem_of_getElem? (i := 69) rfl))) (mvT hZ (hw _ (List.mem_of_getElem? (i := 70) rfl))) (by decide) (backOf (W := 0) (str_lat_0_0 l Z a0 hw [] t tt  k kk h0 n0 Z0 Va Vb) hZ (hw _ (List.mem_of_getElem? (i := 70) rfl)) (hw _ (List.mem_of_getElem? (i := 69) rfl)) (by decide) (by decide)) (g := (mkF m 44 #[.val (.ref a), .val (.ref bb), .val (.ref bb)] [(.ref tt), (.ref t)])) rfl (by rw [hml]; rfl) (argsL := [(.ref t), (.ref tt)]) (rest := []) (lenOf pd___B_B_Z rfl) rfl (by show 2 * 0 + _ ≤ _; exact Nat.le_of_eq rfl) (hb hby d10_44) (fun _ _ => ⟨rfl, e8, (by decide : 0 + 0 ≤ _), (by decide : 0 + 0 ≤ _)⟩)
    dsimp only [Pt.U, Pt.locs, Pt.cells, Pt.slots] at X9 l9 y9 z9 st9 hQ9
    subst l9 y9 z9
    obtain ⟨rfl, N9q, e9⟩ := hQ9
    have N9 := Fr.app N0 N9q
    refine go_of (B := (T9.setTop (mkF m 47 #[.val (.ref a), .val (.ref bb), .val (.ref bb)] [(.int (own_eqv [] []))]))) (st9) ?_
    by_cases hc10 : (own_eqv [] []) = (0 : Int32)
    · refine go_of (B := (T9.setTop (mkF m 54 #[.val (.ref a), .val (.ref bb), .val (.ref bb)] []))) (fun _ kk => XS.ifYes X9.here hx rfl (pc0 := 47) (pc' := 54) rfl (hb hby d10_47) rfl ((if0 _ _).trans (teq hc10).1) (by decide) (by decide) kk) ?_
      refine go_of (B := (T9.setTop (mkF m 55 #[.val (.ref a), .val (.ref bb), .val (.ref bb)] [(.int (0 : Int32))]))) (fun _ kk => XS.iconst X9.here hx rfl (hb hby d10_54) kk) ?_
      refine go_end X9 (v := some (.int (nar .boolean (0 : Int32)))) (fun h => by rw [Bd.returns] at h; cases h) Bd.notSynchronized (by decide) (by decide) (Q := (Q_str_eq_0_0 Z a bb gC h0 n0)) ?_ (fun fs hr => retN X9 hx (t := .boolean) Bd.returns (by simp) (hb hby d10_55) hr)
      show (fun (v : Option Value) (h : Heap) (L : List Loc) => v = some (.int (own_eqv [] [])) ∧ Fr n0 L ∧ h = h0) (some (.int (nar .boolean (0 : Int32)))) T9.heap _
      rw [e9]
      refine ⟨?_, N9, rfl⟩
      have hq := hc10
      rw [own_eqv0, show ([] = []) = (List.map own_b8 [] = List.map own_b8 []) from rfl, own_eqmap [] [] hcs hds] at hq
      unfold own_eqv; simp only [hq, not_false_eq_true, if_true, if_false, nar, ↓reduceIte]; first | rfl | simp_all [nar]
    · refine go_of (B := (T9.setTop (mkF m 50 #[.val (.ref a), .val (.ref bb), .val (.ref bb)] []))) (fun _ kk => XS.ifNo X9.here hx rfl (hb hby d10_47) rfl ((if0 _ _).trans (feq hc10).1) kk) ?_
      refine go_of (B := (T9.setTop (mkF m 51 #[.val (.ref a), .val (.ref bb), .val (.ref bb)] [(.int (1 : Int32))]))) (fun _ kk => XS.iconst X9.here hx rfl (hb hby d10_50) kk) ?_
      refine go_of (B := (T9.setTop (mkF m 55 #[.val (.ref a), .val (.ref bb), .val (.ref bb)] [(.int (1 : Int32))]))) (fun _ kk => XS.goto X9.here hx rfl (pc0 := 51) (pc' := 55) rfl (hb hby d10_51) (by decide) (by decide) kk) ?_
      refine go_end X9 (v := some (.int (nar .boolean (1 : Int32)))) (fun h => by rw [Bd.returns] at h; cases h) Bd.notSynchronized (by decide) (by decide) (Q := (Q_str_eq_0_0 Z a bb gC h0 n0)) ?_ (fun fs hr => retN X9 hx (t := .boolean) Bd.returns (by simp) (hb hby d10_55) hr)
      show (fun (v : Option Value) (h : Heap) (L : List Loc) => v = some (.int (own_eqv [] [])) ∧ Fr n0 L ∧ h = h0) (some (.int (nar .boolean (1 : Int32)))) T9.heap _
      rw [e9]
      refine ⟨?_, N9, rfl⟩
      have hq := hc10
      rw [own_eqv0, show ([] = []) = (List.map own_b8 [] = List.map own_b8 []) from rfl, own_eqmap [] [] hcs hds] at hq
      unfold own_eqv; simp only [hq, not_false_eq_true, if_true, if_false, nar, ↓reduceIte]; first | rfl | simp_all [nar]
def Q_str_eq_0_1 (Z : State) (a : Addr) (bb : Addr) (d0 : Int32) (gC : Int32) (h0 : Heap) (n0 : Nat) (v : Option Value) (h : Heap) (L : List Loc) : Prop := v = some (.int (own_eqv [] [d0])) ∧ Fr n0 L ∧ h = h0
theorem ef_str_eq_0_1 (m : MethodId) (a : Addr) (bb : Addr)  : entryFrame m #[(.ref a), (.ref bb)] 3 = mkF m 0 #[.val (.ref a), .val (.ref bb), .unset] [] := by first | (simp [entryFrame, mkF, argsToLocals, Value.category]; done) | rfl
set_option maxRecDepth 65536 in
set_option maxHeartbeats 40000000 in
theorem str_eq_0_1 (l : Launch) (Z : State) (a0 : Array Value) (hw : ∀ d ∈ tables_1, d.before a0 Z = true) (ws : List Jvm.Cond) (a : Addr) (bb : Addr) (d0 : Int32) (gC : Int32) (h0 : Heap) (n0 : Nat) (Z0 : n0 ≤ h0.size) (O : Old Z n0 h0) (SC : Sta Z Z.heap "java/lang/String" "COMPACT_STRINGS" "Z" (.int gC)) (hgC : ¬ gC = (0 : Int32)) (S1 : Str Z h0 a 0 []) (S2 : Str Z h0 bb 1 [d0]) (hab : a = bb → ([] : List Int32) = [d0]) :
    MetFree l (⟨"java/lang/String", "equals", "(Ljava/lang/Object;)Z"⟩ : MethodName) (head1 (Jvm.Cond.code (⟨"java/lang/String", "equals", "(Ljava/lang/Object;)Z"⟩ : MethodName) jdk_42_method_66_code 3 (some .boolean) :: ws) ({ frames := 1, cells := 0, slots := 0, locals := 14 } : Room)) (fun aa' U1' => aa' = #[(.ref a), (.ref bb)] ∧ Z.Warmed39 U1'.vm ∧ U1'.heap = h0) (fun _ _ _ _ _ => True) (fun _ U1' oo' U2' => ∃ vv' LL', oo' = .returned vv' ∧ (Q_str_eq_0_1 Z a bb d0 gC h0 n0) vv' U2'.heap LL' ∧ FrameEnd U1' oo' U2' LL' ({ frames := 1, cells := 0, slots := 0, locals := 14 } : Room).cells ({ frames := 1, cells := 0, slots := 0, locals := 14 } : Room).slots) := by
  refine MetFree.of_bodySF (plainFor_of_name pn_java_lang_String) hisR ?_
  intro p e s m args below meth c s₁ Bd hml0 hP hK
  obtain ⟨rfl, hZ, hh⟩ := hP
  have hx := Bd.exec
  have hby := Bd.bytes
  have hml : c.maxLocals = 3 := hml0
  have hown : s.vm.findClass "java/lang/String" = some m.cls := findClass_of_methodNamed Bd.named
  have hnm := (name_of_methodNamed Bd.named Bd.method).1
  have X0 : Stand p l e ({ frames := 1, cells := 0, slots := 0, locals := 14 } : Room) s m #[(.ref a), (.ref bb)] below meth c s₁ [] 0 0 := Stand.of_body Bd
  have e0 : s₁.heap = h0 := by rw [← hh, Bd.state]; rfl
  have N0 := Fr.nil n0
  obtain ⟨t, k, Ea, Fc, Fv, Va, hcs⟩ := S1
  obtain ⟨tt, kk, Eb, Fcb, Fvb, Vb, hds⟩ := S2
  refine go_of (A := s₁.setTop (entryFrame m #[(.ref a), (.ref bb)] 3)) (B := s₁.setTop (mkF m 0 #[.val (.ref a), .val (.ref bb), .unset] [])) (fun _ kk' => castTop (ef_str_eq_0_1 m a bb) kk') ?_
  refine go_of (B := (s₁.setTop (mkF m 1 #[.val (.ref a), .val (.ref bb), .unset] [(.ref a)]))) (fun _ kk => XS.aloadN X0.here hx rfl (hb hby d10_0) rfl rfl kk) ?_
  refine go_of (B := (s₁.setTop (mkF m 2 #[.val (.ref a), .val (.ref bb), .unset] [(.ref bb), (.ref a)]))) (fun _ kk => XS.aloadN X0.here hx rfl (hb hby d10_1) rfl rfl kk) ?_
  by_cases ha1 : a = bb
  · refine go_of (B := (s₁.setTop (mkF m 5 #[.val (.ref a), .val (.ref bb), .unset] []))) (fun _ kk => Jvm.RoadKit.acmp (g := (mkF m 2 #[.val (.ref a), .val (.ref bb), .unset] [(.ref bb), (.ref a)])) X0 hx rfl rfl rfl (pc0 := 2) (pc' := 5) (same := true) rfl (hb hby d10_2) rfl (decide_eq_true (congrArg Value.ref ha1)) (by decide) (by decide) kk) ?_
    refine go_of (B := (s₁.setTop (mkF m 6 #[.val (.ref a), .val (.ref bb), .unset] [(.int (1 : Int32))]))) (fun _ kk => XS.iconst X0.here hx rfl (hb hby d10_5) kk) ?_
    refine go_end X0 (v := some (.int (nar .boolean (1 : Int32)))) (fun h => by rw [Bd.returns] at h; cases h) Bd.notSynchronized (by decide) (by decide) (Q := (Q_str_eq_0_1 Z a bb d0 gC h0 n0)) ?_ (fun fs hr => retN X0 hx (t := .boolean) Bd.returns (by simp) (hb hby d10_6) hr)
    show (fun (v : Option Value) (h : Heap) (L : List Loc) => v = some (.int (own_eqv [] [d0])) ∧ Fr n0 L ∧ h = h0) (some (.int (nar .boolean (1 : Int32)))) s₁.heap _
    rw [e0]
    refine ⟨?_, N0, rfl⟩
    have hq := hab ha1
    simp only [own_eqv, if_pos hq]; rfl
  · refine go_of (B := (s₁.setTop (mkF m 7 #[.val (.ref a), .val (.ref bb), .unset] []))) (fun _ kk => Jvm.RoadKit.acmp (g := (mkF m 2 #[.val (.ref a), .val (.ref bb), .unset] [(.ref bb), (.ref a)])) X0 hx rfl rfl rfl (pc0 := 2) (pc' := 7) (same := false) rfl (hb hby d10_2) rfl (decide_eq_false fun q => ha1 (Value.ref.inj q)) (by decide) (by decide) kk) ?_
    refine go_of (B := (s₁.setTop (mkF m 8 #[.val (.ref a), .val (.ref bb), .unset] [(.ref bb)]))) (fun _ kk => XS.aloadN X0.here hx rfl (hb hby d10_7) rfl rfl kk) ?_
    obtain ⟨T2, X2, e2, st2⟩ := instY X0 hx hZ hown (hw _ (List.mem_of_getElem? (i := 65) rfl)) e0 (Ins.self Eb) (g := (mkF m 8 #[.val (.ref a), .val (.ref bb), .unset] [(.ref bb)])) rfl rfl (hb hby d10_8)
    refine go_of (B := (T2.setTop (mkF m 11 #[.val (.ref a), .val (.ref bb), .unset] [(.int (1 : Int32))]))) (st2) ?_
    refine go_of (B := (T2.setTop (mkF m 14 #[.val (.ref a), .val (.ref bb), .unset] []))) (fun _ kk => XS.ifNo X2.here hx rfl (hb hby d10_11) rfl ((if0 _ _).trans (feq (by decide : ¬ ((1 : Int32) = (0 : Int32)))).1) kk) ?_
    refine go_of (B := (T2.setTop (mkF m 15 #[.val (.ref a), .val (.ref bb), .unset] [(.ref bb)]))) (fun _ kk => XS.aloadN X2.here hx rfl (hb hby d10_14) rfl rfl kk) ?_
    obtain ⟨T3, X3, e3, st3⟩ := castY X2 hx hZ hown (hw _ (List.mem_of_getElem? (i := 65) rfl)) e2 (Ins.self Eb) (g := (mkF m 15 #[.val (.ref a), .val (.ref bb), .unset] [(.ref bb)])) rfl rfl (hb hby d10_15)
    refine go_of (B := (T3.setTop (mkF m 18 #[.val (.ref a), .val (.ref bb), .unset] [(.ref bb)]))) (st3) ?_
    refine go_of (B := (T3.setTop (mkF m 19 #[.val (.ref a), .val (.ref bb), .val (.ref bb)] []))) (fun _ kk => XS.astoreN X3.here hx rfl (hb hby d10_18) rfl rfl rfl kk) ?_
    obtain ⟨T4, X4, e4, st4⟩ := getS2 X3 hx hZ hown (host := "") (Or.inl (hw _ (List.mem_of_getElem? (i := 66) rfl))) Via.refl e3 (SC.ext O.2) (g := (mkF m 19 #[.val (.ref a), .val (.ref bb), .val (.ref bb)] [])) rfl (hb hby d10_19)
    refine go_of (B := (T4.setTop (mkF m 22 #[.val (.ref a), .val (.ref bb), .val (.ref bb)] [(.int gC)]))) (st4) ?_
    refine go_of (B := (T4.setTop (mkF m 25 #[.val (.ref a), .val (.ref bb), .val (.ref bb)] []))) (fun _ kk => XS.ifNo X4.here hx rfl (hb hby d10_22) rfl ((if0 _ _).trans (feq hgC).1) kk) ?_
    refine go_of (B := (T4.setTop (mkF m 26 #[.val (.ref a), .val (.ref bb), .val (.ref bb)] [(.ref a)]))) (fun _ kk => XS.aloadN X4.here hx rfl (hb hby d10_25) rfl rfl kk) ?_
    obtain ⟨T5, X5, e5, st5⟩ := getF X4 hx hZ hown (host := "") (Or.inl (hw _ (List.mem_of_getElem? (i := 31) rfl))) Via.refl e4 Fc (g := (mkF m 26 #[.val (.ref a), .val (.ref bb), .val (.ref bb)] [(.ref a)])) rfl rfl (hb hby d10_26)
    refine go_of (B := (T5.setTop (mkF m 29 #[.val (.ref a), .val (.ref bb), .val (.ref bb)] [(.int (0 : Int32))]))) (st5) ?_
    refine go_of (B := (T5.setTop (mkF m 30 #[.val (.ref a), .val (.ref bb), .val (.ref bb)] [(.ref bb), (.int (0 : Int32))]))) (fun _ kk => XS.aloadN X5.here hx rfl (hb hby d10_29) rfl rfl kk) ?_
    obtain ⟨T6, X6, e6, st6⟩ := getF X5 hx hZ hown (host := "") (Or.inl (hw _ (List.mem_of_getElem? (i := 31) rfl))) Via.refl e5 Fcb (g := (mkF m 30 #[.val (.ref a), .val (.ref bb), .val (.ref bb)] [(.ref bb), (.int (0 : Int32))])) rfl rfl (hb hby d10_30)
    refine go_of (B := (T6.setTop (mkF m 33 #[.val (.ref a), .val (.ref bb), .val (.ref bb)] [(.int (0 : Int32)), (.int (0 : Int32))]))) (st6) ?_
    refine go_of (B := (T6.setTop (mkF m 36 #[.val (.ref a), .val (.ref bb), .val (.ref bb)] []))) (fun _ kk => XS.icmpNo X6.here hx rfl (hb hby d10_33) rfl (teq (by decide : (0 : Int32) = (0 : Int32))).2 kk) ?_
    refine go_of (B := (T6.setTop (mkF m 37 #[.val (.ref a), .val (.ref bb), .val (.ref bb)] [(.ref a)]))) (fun _ kk => XS.aloadN X6.here hx rfl (hb hby d10_36) rfl rfl kk) ?_
    obtain ⟨T7, X7, e7, st7⟩ := getF X6 hx hZ hown (host := "") (Or.inl (hw _ (List.mem_of_getElem? (i := 30) rfl))) Via.refl e6 Fv (g := (mkF m 37 #[.val (.ref a), .val (.ref bb), .val (.ref bb)] [(.ref a)])) rfl rfl (hb hby d10_37)
    refine go_of (B := (T7.setTop (mkF m 40 #[.val (.ref a), .val (.ref bb), .val (.ref bb)] [(.ref t)]))) (st7) ?_
    refine go_of (B := (T7.setTop (mkF m 41 #[.val (.ref a), .val (.ref bb), .val (.ref bb)] [(.ref bb), (.ref t)]))) (fun _ kk => XS.aloadN X7.here hx rfl (hb hby d10_40) rfl rfl kk) ?_
    obtain ⟨T8, X8, e8, st8⟩ := getF X7 hx hZ hown (host := "") (Or.inl (hw _ (List.mem_of_getElem? (i := 30) rfl))) Via.refl e7 Fvb (g := (mkF m 41 #[.val (.ref a), .val (.ref bb), .val (.ref bb)] [(.ref bb), (.ref t)])) rfl rfl (hb hby d10_41)
    refine go_of (B := (T8.setTop (mkF m 44 #[.val (.ref a), .val (.ref bb), .val (.ref bb)] [(.ref tt), (.ref t)]))) (st8) ?_
    obtain ⟨_, _, ⟨T9, L9, k9, n9⟩, -, X9, ⟨Lc9, hQ9, l9, y9, z9⟩, st9⟩ := Jvm.LawKit.callS X8 hx (y := (⟨"java/lang/StringLatin1", "equals", "([B[B)Z"⟩ : MethodName)) hown (mvT hZ (hw _ (List.mem_of_getElem? (i := 67) rfl))) (mvT hZ (hw _ (List.mem_of_getElem? (i := 68) rfl))) (mvT hZ (hw _ (List.mem_of_getElem? (i := 69) rfl))) (mvT hZ (hw _ (List.mem_of_getElem? (i := 70) rfl))) (by decide) (backOf (W := 0) (str_lat_0_1 l Z a0 hw [] t tt (own_b8 d0) k kk h0 n0 Z0 Va Vb) hZ (hw _ (List.mem_of_getElem? (i := 70) rfl)) (hw _ (List.mem_of_getElem? (i := 69) rfl)) (by decide) (by decide)) (g := (mkF m 44 #[.val (.ref a), .val (.ref bb), .val (.ref bb)] [(.ref tt), (.ref t)])) rfl (by rw [hml]; rfl) (argsL := [(.ref t), (.ref tt)]) (rest := []) (lenOf pd___B_B_Z rfl) rfl (by show 2 * 0 + _ ≤ _; exact Nat.le_of_eq rfl) (hb hby d10_44) (fun _ _ => ⟨rfl, e8, (by decide : 0 + 0 ≤ _), (by decide : 0 + 0 ≤ _)⟩)
    dsimp only [Pt.U, Pt.locs, Pt.cells, Pt.slots] at X9 l9 y9 z9 st9 hQ9
    subst l9 y9 z9
    obtain ⟨rfl, N9q, e9⟩ := hQ9
    have N9 := Fr.app N0 N9q
    refine go_of (B := (T9.setTop (mkF m 47 #[.val (.ref a), .val (.ref bb), .val (.ref bb)] [(.int (own_eqv [] [(own_b8 d0)]))]))) (st9) ?_
    by_cases hc10 : (own_eqv [] [(own_b8 d0)]) = (0 : Int32)
    · refine go_of (B := (T9.setTop (mkF m 54 #[.val (.ref a), .val (.ref bb), .val (.ref bb)] []))) (fun _ kk => XS.ifYes X9.here hx rfl (pc0 := 47) (pc' := 54) rfl (hb hby d10_47) rfl ((if0 _ _).trans (teq hc10).1) (by decide) (by decide) kk) ?_
      refine go_of (B := (T9.setTop (mkF m 55 #[.val (.ref a), .val (.ref bb), .val (.ref bb)] [(.int (0 : Int32))]))) (fun _ kk => XS.iconst X9.here hx rfl (hb hby d10_54) kk) ?_
      refine go_end X9 (v := some (.int (nar .boolean (0 : Int32)))) (fun h => by rw [Bd.returns] at h; cases h) Bd.notSynchronized (by decide) (by decide) (Q := (Q_str_eq_0_1 Z a bb d0 gC h0 n0)) ?_ (fun fs hr => retN X9 hx (t := .boolean) Bd.returns (by simp) (hb hby d10_55) hr)
      show (fun (v : Option Value) (h : Heap) (L : List Loc) => v = some (.int (own_eqv [] [d0])) ∧ Fr n0 L ∧ h = h0) (some (.int (nar .boolean (0 : Int32)))) T9.heap _
      rw [e9]
      refine ⟨?_, N9, rfl⟩
      have hq := hc10
      rw [own_eqv0, show ([] = [own_b8 d0]) = (List.map own_b8 [] = List.map own_b8 [d0]) from rfl, own_eqmap [] [d0] hcs hds] at hq
      unfold own_eqv; simp only [hq, not_false_eq_true, if_true, if_false, nar, ↓reduceIte]; first | rfl | simp_all [nar]
    · refine go_of (B := (T9.setTop (mkF m 50 #[.val (.ref a), .val (.ref bb), .val (.ref bb)] []))) (fun _ kk => XS.ifNo X9.here hx rfl (hb hby d10_47) rfl ((if0 _ _).trans (feq hc10).1) kk) ?_
      refine go_of (B := (T9.setTop (mkF m 51 #[.val (.ref a), .val (.ref bb), .val (.ref bb)] [(.int (1 : Int32))]))) (fun _ kk => XS.iconst X9.here hx rfl (hb hby d10_50) kk) ?_
      refine go_of (B := (T9.setTop (mkF m 55 #[.val (.ref a), .val (.ref bb), .val (.ref bb)] [(.int (1 : Int32))]))) (fun _ kk => XS.goto X9.here hx rfl (pc0 := 51) (pc' := 55) rfl (hb hby d10_51) (by decide) (by decide) kk) ?_
      refine go_end X9 (v := some (.int (nar .boolean (1 : Int32)))) (fun h => by rw [Bd.returns] at h; cases h) Bd.notSynchronized (by decide) (by decide) (Q := (Q_str_eq_0_1 Z a bb d0 gC h0 n0)) ?_ (fun fs hr => retN X9 hx (t := .boolean) Bd.returns (by simp) (hb hby d10_55) hr)
      show (fun (v : Option Value) (h : Heap) (L : List Loc) => v = some (.int (own_eqv [] [d0])) ∧ Fr n0 L ∧ h = h0) (some (.int (nar .boolean (1 : Int32)))) T9.heap _
      rw [e9]
      refine ⟨?_, N9, rfl⟩
      have hq := hc10
      rw [own_eqv0, show ([] = [own_b8 d0]) = (List.map own_b8 [] = List.map own_b8 [d0]) from rfl, own_eqmap [] [d0] hcs hds] at hq
      unfold own_eqv; simp only [hq, not_false_eq_true, if_true, if_false, nar, ↓reduceIte]; first | rfl | simp_all [nar]
def Q_str_eq_0_2 (Z : State) (a : Addr) (bb : Addr) (d0 : Int32) (d1 : Int32) (gC : Int32) (h0 : Heap) (n0 : Nat) (v : Option Value) (h : Heap) (L : List Loc) : Prop := v = some (.int (own_eqv [] [d0, d1])) ∧ Fr n0 L ∧ h = h0
theorem ef_str_eq_0_2 (m : MethodId) (a : Addr) (bb : Addr)  : entryFrame m #[(.ref a), (.ref bb)] 3 = mkF m 0 #[.val (.ref a), .val (.ref bb), .unset] [] := by first | (simp [entryFrame, mkF, argsToLocals, Value.category]; done) | rfl
set_option maxRecDepth 65536 in
set_option maxHeartbeats 40000000 in
theorem str_eq_0_2 (l : Launch) (Z : State) (a0 : Array Value) (hw : ∀ d ∈ tables_1, d.before a0 Z = true) (ws : List Jvm.Cond) (a : Addr) (bb : Addr) (d0 : Int32) (d1 : Int32) (gC : Int32) (h0 : Heap) (n0 : Nat) (Z0 : n0 ≤ h0.size) (O : Old Z n0 h0) (SC : Sta Z Z.heap "java/lang/String" "COMPACT_STRINGS" "Z" (.int gC)) (hgC : ¬ gC = (0 : Int32)) (S1 : Str Z h0 a 0 []) (S2 : Str Z h0 bb 2 [d0, d1]) (hab : a = bb → ([] : List Int32) = [d0, d1]) :
    MetFree l (⟨"java/lang/String", "equals", "(Ljava/lang/Object;)Z"⟩ : MethodName) (head1 (Jvm.Cond.code (⟨"java/lang/String", "equals", "(Ljava/lang/Object;)Z"⟩ : MethodName) jdk_42_method_66_code 3 (some .boolean) :: ws) ({ frames := 1, cells := 0, slots := 0, locals := 14 } : Room)) (fun aa' U1' => aa' = #[(.ref a), (.ref bb)] ∧ Z.Warmed39 U1'.vm ∧ U1'.heap = h0) (fun _ _ _ _ _ => True) (fun _ U1' oo' U2' => ∃ vv' LL', oo' = .returned vv' ∧ (Q_str_eq_0_2 Z a bb d0 d1 gC h0 n0) vv' U2'.heap LL' ∧ FrameEnd U1' oo' U2' LL' ({ frames := 1, cells := 0, slots := 0, locals := 14 } : Room).cells ({ frames := 1, cells := 0, slots := 0, locals := 14 } : Room).slots) := by
  refine MetFree.of_bodySF (plainFor_of_name pn_java_lang_String) hisR ?_
  intro p e s m args below meth c s₁ Bd hml0 hP hK
  obtain ⟨rfl, hZ, hh⟩ := hP
  have hx := Bd.exec
  have hby := Bd.bytes
  have hml : c.maxLocals = 3 := hml0
  have hown : s.vm.findClass "java/lang/String" = some m.cls := findClass_of_methodNamed Bd.named
  have hnm := (name_of_methodNamed Bd.named Bd.method).1
  have X0 : Stand p l e ({ frames := 1, cells := 0, slots := 0, locals := 14 } : Room) s m #[(.ref a), (.ref bb)] below meth c s₁ [] 0 0 := Stand.of_body Bd
  have e0 : s₁.heap = h0 := by rw [← hh, Bd.state]; rfl
  have N0 := Fr.nil n0
  obtain ⟨t, k, Ea, Fc, Fv, Va, hcs⟩ := S1
  obtain ⟨tt, kk, Eb, Fcb, Fvb, Vb, hds⟩ := S2
  refine go_of (A := s₁.setTop (entryFrame m #[(.ref a), (.ref bb)] 3)) (B := s₁.setTop (mkF m 0 #[.val (.ref a), .val (.ref bb), .unset] [])) (fun _ kk' => castTop (ef_str_eq_0_2 m a bb) kk') ?_
  refine go_of (B := (s₁.setTop (mkF m 1 #[.val (.ref a), .val (.ref bb), .unset] [(.ref a)]))) (fun _ kk => XS.aloadN X0.here hx rfl (hb hby d10_0) rfl rfl kk) ?_
  refine go_of (B := (s₁.setTop (mkF m 2 #[.val (.ref a), .val (.ref bb), .unset] [(.ref bb), (.ref a)]))) (fun _ kk => XS.aloadN X0.here hx rfl (hb hby d10_1) rfl rfl kk) ?_
  by_cases ha1 : a = bb
  · refine go_of (B := (s₁.setTop (mkF m 5 #[.val (.ref a), .val (.ref bb), .unset] []))) (fun _ kk => Jvm.RoadKit.acmp (g := (mkF m 2 #[.val (.ref a), .val (.ref bb), .unset] [(.ref bb), (.ref a)])) X0 hx rfl rfl rfl (pc0 := 2) (pc' := 5) (same := true) rfl (hb hby d10_2) rfl (decide_eq_true (congrArg Value.ref ha1)) (by decide) (by decide) kk) ?_
    refine go_of (B := (s₁.setTop (mkF m 6 #[.val (.ref a), .val (.ref bb), .unset] [(.int (1 : Int32))]))) (fun _ kk => XS.iconst X0.here hx rfl (hb hby d10_5) kk) ?_
    refine go_end X0 (v := some (.int (nar .boolean (1 : Int32)))) (fun h => by rw [Bd.returns] at h; cases h) Bd.notSynchronized (by decide) (by decide) (Q := (Q_str_eq_0_2 Z a bb d0 d1 gC h0 n0)) ?_ (fun fs hr => retN X0 hx (t := .boolean) Bd.returns (by simp) (hb hby d10_6) hr)
    show (fun (v : Option Value) (h : Heap) (L : List Loc) => v = some (.int (own_eqv [] [d0, d1])) ∧ Fr n0 L ∧ h = h0) (some (.int (nar .boolean (1 : Int32)))) s₁.heap _
    rw [e0]
    refine ⟨?_, N0, rfl⟩
    have hq := hab ha1
    simp only [own_eqv, if_pos hq]; rfl
  · refine go_of (B := (s₁.setTop (mkF m 7 #[.val (.ref a), .val (.ref bb), .unset] []))) (fun _ kk => Jvm.RoadKit.acmp (g := (mkF m 2 #[.val (.ref a), .val (.ref bb), .unset] [(.ref bb), (.ref a)])) X0 hx rfl rfl rfl (pc0 := 2) (pc' := 7) (same := false) rfl (hb hby d10_2) rfl (decide_eq_false fun q => ha1 (Value.ref.inj q)) (by decide) (by decide) kk) ?_
    refine go_of (B := (s₁.setTop (mkF m 8 #[.val (.ref a), .val (.ref bb), .unset] [(.ref bb)]))) (fun _ kk => XS.aloadN X0.here hx rfl (hb hby d10_7) rfl rfl kk) ?_
    obtain ⟨T2, X2, e2, st2⟩ := instY X0 hx hZ hown (hw _ (List.mem_of_getElem? (i := 65) rfl)) e0 (Ins.self Eb) (g := (mkF m 8 #[.val (.ref a), .val (.ref bb), .unset] [(.ref bb)])) rfl rfl (hb hby d10_8)
    refine go_of (B := (T2.setTop (mkF m 11 #[.val (.ref a), .val (.ref bb), .unset] [(.int (1 : Int32))]))) (st2) ?_
    refine go_of (B := (T2.setTop (mkF m 14 #[.val (.ref a), .val (.ref bb), .unset] []))) (fun _ kk => XS.ifNo X2.here hx rfl (hb hby d10_11) rfl ((if0 _ _).trans (feq (by decide : ¬ ((1 : Int32) = (0 : Int32)))).1) kk) ?_
    refine go_of (B := (T2.setTop (mkF m 15 #[.val (.ref a), .val (.ref bb), .unset] [(.ref bb)]))) (fun _ kk => XS.aloadN X2.here hx rfl (hb hby d10_14) rfl rfl kk) ?_
    obtain ⟨T3, X3, e3, st3⟩ := castY X2 hx hZ hown (hw _ (List.mem_of_getElem? (i := 65) rfl)) e2 (Ins.self Eb) (g := (mkF m 15 #[.val (.ref a), .val (.ref bb), .unset] [(.ref bb)])) rfl rfl (hb hby d10_15)
    refine go_of (B := (T3.setTop (mkF m 18 #[.val (.ref a), .val (.ref bb), .unset] [(.ref bb)]))) (st3) ?_
    refine go_of (B := (T3.setTop (mkF m 19 #[.val (.ref a), .val (.ref bb), .val (.ref bb)] []))) (fun _ kk => XS.astoreN X3.here hx rfl (hb hby d10_18) rfl rfl rfl kk) ?_
    obtain ⟨T4, X4, e4, st4⟩ := getS2 X3 hx hZ hown (host := "") (Or.inl (hw _ (List.mem_of_getElem? (i := 66) rfl))) Via.refl e3 (SC.ext O.2) (g := (mkF m 19 #[.val (.ref a), .val (.ref bb), .val (.ref bb)] [])) rfl (hb hby d10_19)
    refine go_of (B := (T4.setTop (mkF m 22 #[.val (.ref a), .val (.ref bb), .val (.ref bb)] [(.int gC)]))) (st4) ?_
    refine go_of (B := (T4.setTop (mkF m 25 #[.val (.ref a), .val (.ref bb), .val (.ref bb)] []))) (fun _ kk => XS.ifNo X4.here hx rfl (hb hby d10_22) rfl ((if0 _ _).trans (feq hgC).1) kk) ?_
    refine go_of (B := (T4.setTop (mkF m 26 #[.val (.ref a), .val (.ref bb), .val (.ref bb)] [(.ref a)]))) (fun _ kk => XS.aloadN X4.here hx rfl (hb hby d10_25) rfl rfl kk) ?_
    obtain ⟨T5, X5, e5, st5⟩ := getF X4 hx hZ hown (host := "") (Or.inl (hw _ (List.mem_of_getElem? (i := 31) rfl))) Via.refl e4 Fc (g := (mkF m 26 #[.val (.ref a), .val (.ref bb), .val (.ref bb)] [(.ref a)])) rfl rfl (hb hby d10_26)
    refine go_of (B := (T5.setTop (mkF m 29 #[.val (.ref a), .val (.ref bb), .val (.ref bb)] [(.int (0 : Int32))]))) (st5) ?_
    refine go_of (B := (T5.setTop (mkF m 30 #[.val (.ref a), .val (.ref bb), .val (.ref bb)] [(.ref bb), (.int (0 : Int32))]))) (fun _ kk => XS.aloadN X5.here hx rfl (hb hby d10_29) rfl rfl kk) ?_
    obtain ⟨T6, X6, e6, st6⟩ := getF X5 hx hZ hown (host := "") (Or.inl (hw _ (List.mem_of_getElem? (i := 31) rfl))) Via.refl e5 Fcb (g := (mkF m 30 #[.val (.ref a), .val (.ref bb), .val (.ref bb)] [(.ref bb), (.int (0 : Int32))])) rfl rfl (hb hby d10_30)
    refine go_of (B := (T6.setTop (mkF m 33 #[.val (.ref a), .val (.ref bb), .val (.ref bb)] [(.int (0 : Int32)), (.int (0 : Int32))]))) (st6) ?_
    refine go_of (B := (T6.setTop (mkF m 36 #[.val (.ref a), .val (.ref bb), .val (.ref bb)] []))) (fun _ kk => XS.icmpNo X6.here hx rfl (hb hby d10_33) rfl (teq (by decide : (0 : Int32) = (0 : Int32))).2 kk) ?_
    refine go_of (B := (T6.setTop (mkF m 37 #[.val (.ref a), .val (.ref bb), .val (.ref bb)] [(.ref a)]))) (fun _ kk => XS.aloadN X6.here hx rfl (hb hby d10_36) rfl rfl kk) ?_
    obtain ⟨T7, X7, e7, st7⟩ := getF X6 hx hZ hown (host := "") (Or.inl (hw _ (List.mem_of_getElem? (i := 30) rfl))) Via.refl e6 Fv (g := (mkF m 37 #[.val (.ref a), .val (.ref bb), .val (.ref bb)] [(.ref a)])) rfl rfl (hb hby d10_37)
    refine go_of (B := (T7.setTop (mkF m 40 #[.val (.ref a), .val (.ref bb), .val (.ref bb)] [(.ref t)]))) (st7) ?_
    refine go_of (B := (T7.setTop (mkF m 41 #[.val (.ref a), .val (.ref bb), .val (.ref bb)] [(.ref bb), (.ref t)]))) (fun _ kk => XS.aloadN X7.here hx rfl (hb hby d10_40) rfl rfl kk) ?_
    obtain ⟨T8, X8, e8, st8⟩ := getF X7 hx hZ hown (host := "") (Or.inl (hw _ (List.mem_of_getElem? (i := 30) rfl))) Via.refl e7 Fvb (g := (mkF m 41 #[.val (.ref a), .val (.ref bb), .val (.ref bb)] [(.ref bb), (.ref t)])) rfl rfl (hb hby d10_41)
    refine go_of (B := (T8.setTop (mkF m 44 #[.val (.ref a), .val (.ref bb), .val (.ref bb)] [(.ref tt), (.ref t)]))) (st8) ?_
    obtain ⟨_, _, ⟨T9, L9, k9, n9⟩, -, X9, ⟨Lc9, hQ9, l9, y9, z9⟩, st9⟩ := Jvm.LawKit.callS X8 hx (y := (⟨"java/lang/StringLatin1", "equals", "([B[B)Z"⟩ : MethodName)) hown (mvT hZ (hw _ (List.mem_of_getElem? (i := 67) rfl))) (mvT hZ (hw _ (List.mem_of_getElem? (i := 68) rfl))) (mvT hZ (hw _ (List.mem_of_getElem? (i := 69) rfl))) (mvT hZ (hw _ (List.mem_of_getElem? (i := 70) rfl))) (by decide) (backOf (W := 0) (str_lat_0_2 l Z a0 hw [] t tt (own_b8 d0) (own_b8 d1) k kk h0 n0 Z0 Va Vb) hZ (hw _ (List.mem_of_getElem? (i := 70) rfl)) (hw _ (List.mem_of_getElem? (i := 69) rfl)) (by decide) (by decide)) (g := (mkF m 44 #[.val (.ref a), .val (.ref bb), .val (.ref bb)] [(.ref tt), (.ref t)])) rfl (by rw [hml]; rfl) (argsL := [(.ref t), (.ref tt)]) (rest := []) (lenOf pd___B_B_Z rfl) rfl (by show 2 * 0 + _ ≤ _; exact Nat.le_of_eq rfl) (hb hby d10_44) (fun _ _ => ⟨rfl, e8, (by decide : 0 + 0 ≤ _), (by decide : 0 + 0 ≤ _)⟩)
    dsimp only [Pt.U, Pt.locs, Pt.cells, Pt.slots] at X9 l9 y9 z9 st9 hQ9
    subst l9 y9 z9
    obtain ⟨rfl, N9q, e9⟩ := hQ9
    have N9 := Fr.app N0 N9q
    refine go_of (B := (T9.setTop (mkF m 47 #[.val (.ref a), .val (.ref bb), .val (.ref bb)] [(.int (own_eqv [] [(own_b8 d0), (own_b8 d1)]))]))) (st9) ?_
    by_cases hc10 : (own_eqv [] [(own_b8 d0), (own_b8 d1)]) = (0 : Int32)
    · refine go_of (B := (T9.setTop (mkF m 54 #[.val (.ref a), .val (.ref bb), .val (.ref bb)] []))) (fun _ kk => XS.ifYes X9.here hx rfl (pc0 := 47) (pc' := 54) rfl (hb hby d10_47) rfl ((if0 _ _).trans (teq hc10).1) (by decide) (by decide) kk) ?_
      refine go_of (B := (T9.setTop (mkF m 55 #[.val (.ref a), .val (.ref bb), .val (.ref bb)] [(.int (0 : Int32))]))) (fun _ kk => XS.iconst X9.here hx rfl (hb hby d10_54) kk) ?_
      refine go_end X9 (v := some (.int (nar .boolean (0 : Int32)))) (fun h => by rw [Bd.returns] at h; cases h) Bd.notSynchronized (by decide) (by decide) (Q := (Q_str_eq_0_2 Z a bb d0 d1 gC h0 n0)) ?_ (fun fs hr => retN X9 hx (t := .boolean) Bd.returns (by simp) (hb hby d10_55) hr)
      show (fun (v : Option Value) (h : Heap) (L : List Loc) => v = some (.int (own_eqv [] [d0, d1])) ∧ Fr n0 L ∧ h = h0) (some (.int (nar .boolean (0 : Int32)))) T9.heap _
      rw [e9]
      refine ⟨?_, N9, rfl⟩
      have hq := hc10
      rw [own_eqv0, show ([] = [own_b8 d0, own_b8 d1]) = (List.map own_b8 [] = List.map own_b8 [d0, d1]) from rfl, own_eqmap [] [d0, d1] hcs hds] at hq
      unfold own_eqv; simp only [hq, not_false_eq_true, if_true, if_false, nar, ↓reduceIte]; first | rfl | simp_all [nar]
    · refine go_of (B := (T9.setTop (mkF m 50 #[.val (.ref a), .val (.ref bb), .val (.ref bb)] []))) (fun _ kk => XS.ifNo X9.here hx rfl (hb hby d10_47) rfl ((if0 _ _).trans (feq hc10).1) kk) ?_
      refine go_of (B := (T9.setTop (mkF m 51 #[.val (.ref a), .val (.ref bb), .val (.ref bb)] [(.int (1 : Int32))]))) (fun _ kk => XS.iconst X9.here hx rfl (hb hby d10_50) kk) ?_
      refine go_of (B := (T9.setTop (mkF m 55 #[.val (.ref a), .val (.ref bb), .val (.ref bb)] [(.int (1 : Int32))]))) (fun _ kk => XS.goto X9.here hx rfl (pc0 := 51) (pc' := 55) rfl (hb hby d10_51) (by decide) (by decide) kk) ?_
      refine go_end X9 (v := some (.int (nar .boolean (1 : Int32)))) (fun h => by rw [Bd.returns] at h; cases h) Bd.notSynchronized (by decide) (by decide) (Q := (Q_str_eq_0_2 Z a bb d0 d1 gC h0 n0)) ?_ (fun fs hr => retN X9 hx (t := .boolean) Bd.returns (by simp) (hb hby d10_55) hr)
      show (fun (v : Option Value) (h : Heap) (L : List Loc) => v = some (.int (own_eqv [] [d0, d1])) ∧ Fr n0 L ∧ h = h0) (some (.int (nar .boolean (1 : Int32)))) T9.heap _
      rw [e9]
      refine ⟨?_, N9, rfl⟩
      have hq := hc10
      rw [own_eqv0, show ([] = [own_b8 d0, own_b8 d1]) = (List.map own_b8 [] = List.map own_b8 [d0, d1]) from rfl, own_eqmap [] [d0, d1] hcs hds] at hq
      unfold own_eqv; simp only [hq, not_false_eq_true, if_true, if_false, nar, ↓reduceIte]; first | rfl | simp_all [nar]
def Q_str_eq_1_0 (Z : State) (a : Addr) (bb : Addr) (c0 : Int32) (gC : Int32) (h0 : Heap) (n0 : Nat) (v : Option Value) (h : Heap) (L : List Loc) : Prop := v = some (.int (own_eqv [c0] [])) ∧ Fr n0 L ∧ h = h0
theorem ef_str_eq_1_0 (m : MethodId) (a : Addr) (bb : Addr)  : entryFrame m #[(.ref a), (.ref bb)] 3 = mkF m 0 #[.val (.ref a), .val (.ref bb), .unset] [] := by first | (simp [entryFrame, mkF, argsToLocals, Value.category]; done) | rfl
set_option maxRecDepth 65536 in
set_option maxHeartbeats 40000000 in
theorem str_eq_1_0 (l : Launch) (Z : State) (a0 : Array Value) (hw : ∀ d ∈ tables_1, d.before a0 Z = true) (ws : List Jvm.Cond) (a : Addr) (bb : Addr) (c0 : Int32) (gC : Int32) (h0 : Heap) (n0 : Nat) (Z0 : n0 ≤ h0.size) (O : Old Z n0 h0) (SC : Sta Z Z.heap "java/lang/String" "COMPACT_STRINGS" "Z" (.int gC)) (hgC : ¬ gC = (0 : Int32)) (S1 : Str Z h0 a 1 [c0]) (S2 : Str Z h0 bb 0 []) (hab : a = bb → ([c0] : List Int32) = []) :
    MetFree l (⟨"java/lang/String", "equals", "(Ljava/lang/Object;)Z"⟩ : MethodName) (head1 (Jvm.Cond.code (⟨"java/lang/String", "equals", "(Ljava/lang/Object;)Z"⟩ : MethodName) jdk_42_method_66_code 3 (some .boolean) :: ws) ({ frames := 1, cells := 0, slots := 0, locals := 14 } : Room)) (fun aa' U1' => aa' = #[(.ref a), (.ref bb)] ∧ Z.Warmed39 U1'.vm ∧ U1'.heap = h0) (fun _ _ _ _ _ => True) (fun _ U1' oo' U2' => ∃ vv' LL', oo' = .returned vv' ∧ (Q_str_eq_1_0 Z a bb c0 gC h0 n0) vv' U2'.heap LL' ∧ FrameEnd U1' oo' U2' LL' ({ frames := 1, cells := 0, slots := 0, locals := 14 } : Room).cells ({ frames := 1, cells := 0, slots := 0, locals := 14 } : Room).slots) := by
  refine MetFree.of_bodySF (plainFor_of_name pn_java_lang_String) hisR ?_
  intro p e s m args below meth c s₁ Bd hml0 hP hK
  obtain ⟨rfl, hZ, hh⟩ := hP
  have hx := Bd.exec
  have hby := Bd.bytes
  have hml : c.maxLocals = 3 := hml0
  have hown : s.vm.findClass "java/lang/String" = some m.cls := findClass_of_methodNamed Bd.named
  have hnm := (name_of_methodNamed Bd.named Bd.method).1
  have X0 : Stand p l e ({ frames := 1, cells := 0, slots := 0, locals := 14 } : Room) s m #[(.ref a), (.ref bb)] below meth c s₁ [] 0 0 := Stand.of_body Bd
  have e0 : s₁.heap = h0 := by rw [← hh, Bd.state]; rfl
  have N0 := Fr.nil n0
  obtain ⟨t, k, Ea, Fc, Fv, Va, hcs⟩ := S1
  obtain ⟨tt, kk, Eb, Fcb, Fvb, Vb, hds⟩ := S2
  refine go_of (A := s₁.setTop (entryFrame m #[(.ref a), (.ref bb)] 3)) (B := s₁.setTop (mkF m 0 #[.val (.ref a), .val (.ref bb), .unset] [])) (fun _ kk' => castTop (ef_str_eq_1_0 m a bb) kk') ?_
  refine go_of (B := (s₁.setTop (mkF m 1 #[.val (.ref a), .val (.ref bb), .unset] [(.ref a)]))) (fun _ kk => XS.aloadN X0.here hx rfl (hb hby d10_0) rfl rfl kk) ?_
  refine go_of (B := (s₁.setTop (mkF m 2 #[.val (.ref a), .val (.ref bb), .unset] [(.ref bb), (.ref a)]))) (fun _ kk => XS.aloadN X0.here hx rfl (hb hby d10_1) rfl rfl kk) ?_
  by_cases ha1 : a = bb
  · refine go_of (B := (s₁.setTop (mkF m 5 #[.val (.ref a), .val (.ref bb), .unset] []))) (fun _ kk => Jvm.RoadKit.acmp (g := (mkF m 2 #[.val (.ref a), .val (.ref bb), .unset] [(.ref bb), (.ref a)])) X0 hx rfl rfl rfl (pc0 := 2) (pc' := 5) (same := true) rfl (hb hby d10_2) rfl (decide_eq_true (congrArg Value.ref ha1)) (by decide) (by decide) kk) ?_
    refine go_of (B := (s₁.setTop (mkF m 6 #[.val (.ref a), .val (.ref bb), .unset] [(.int (1 : Int32))]))) (fun _ kk => XS.iconst X0.here hx rfl (hb hby d10_5) kk) ?_
    refine go_end X0 (v := some (.int (nar .boolean (1 : Int32)))) (fun h => by rw [Bd.returns] at h; cases h) Bd.notSynchronized (by decide) (by decide) (Q := (Q_str_eq_1_0 Z a bb c0 gC h0 n0)) ?_ (fun fs hr => retN X0 hx (t := .boolean) Bd.returns (by simp) (hb hby d10_6) hr)
    show (fun (v : Option Value) (h : Heap) (L : List Loc) => v = some (.int (own_eqv [c0] [])) ∧ Fr n0 L ∧ h = h0) (some (.int (nar .boolean (1 : Int32)))) s₁.heap _
    rw [e0]
    refine ⟨?_, N0, rfl⟩
    have hq := hab ha1
    simp only [own_eqv, if_pos hq]; rfl
  · refine go_of (B := (s₁.setTop (mkF m 7 #[.val (.ref a), .val (.ref bb), .unset] []))) (fun _ kk => Jvm.RoadKit.acmp (g := (mkF m 2 #[.val (.ref a), .val (.ref bb), .unset] [(.ref bb), (.ref a)])) X0 hx rfl rfl rfl (pc0 := 2) (pc' := 7) (same := false) rfl (hb hby d10_2) rfl (decide_eq_false fun q => ha1 (Value.ref.inj q)) (by decide) (by decide) kk) ?_
    refine go_of (B := (s₁.setTop (mkF m 8 #[.val (.ref a), .val (.ref bb), .unset] [(.ref bb)]))) (fun _ kk => XS.aloadN X0.here hx rfl (hb hby d10_7) rfl rfl kk) ?_
    obtain ⟨T2, X2, e2, st2⟩ := instY X0 hx hZ hown (hw _ (List.mem_of_getElem? (i := 65) rfl)) e0 (Ins.self Eb) (g := (mkF m 8 #[.val (.ref a), .val (.ref bb), .unset] [(.ref bb)])) rfl rfl (hb hby d10_8)
    refine go_of (B := (T2.setTop (mkF m 11 #[.val (.ref a), .val (.ref bb), .unset] [(.int (1 : Int32))]))) (st2) ?_
    refine go_of (B := (T2.setTop (mkF m 14 #[.val (.ref a), .val (.ref bb), .unset] []))) (fun _ kk => XS.ifNo X2.here hx rfl (hb hby d10_11) rfl ((if0 _ _).trans (feq (by decide : ¬ ((1 : Int32) = (0 : Int32)))).1) kk) ?_
    refine go_of (B := (T2.setTop (mkF m 15 #[.val (.ref a), .val (.ref bb), .unset] [(.ref bb)]))) (fun _ kk => XS.aloadN X2.here hx rfl (hb hby d10_14) rfl rfl kk) ?_
    obtain ⟨T3, X3, e3, st3⟩ := castY X2 hx hZ hown (hw _ (List.mem_of_getElem? (i := 65) rfl)) e2 (Ins.self Eb) (g := (mkF m 15 #[.val (.ref a), .val (.ref bb), .unset] [(.ref bb)])) rfl rfl (hb hby d10_15)
    refine go_of (B := (T3.setTop (mkF m 18 #[.val (.ref a), .val (.ref bb), .unset] [(.ref bb)]))) (st3) ?_
    refine go_of (B := (T3.setTop (mkF m 19 #[.val (.ref a), .val (.ref bb), .val (.ref bb)] []))) (fun _ kk => XS.astoreN X3.here hx rfl (hb hby d10_18) rfl rfl rfl kk) ?_
    obtain ⟨T4, X4, e4, st4⟩ := getS2 X3 hx hZ hown (host := "") (Or.inl (hw _ (List.mem_of_getElem? (i := 66) rfl))) Via.refl e3 (SC.ext O.2) (g := (mkF m 19 #[.val (.ref a), .val (.ref bb), .val (.ref bb)] [])) rfl (hb hby d10_19)
    refine go_of (B := (T4.setTop (mkF m 22 #[.val (.ref a), .val (.ref bb), .val (.ref bb)] [(.int gC)]))) (st4) ?_
    refine go_of (B := (T4.setTop (mkF m 25 #[.val (.ref a), .val (.ref bb), .val (.ref bb)] []))) (fun _ kk => XS.ifNo X4.here hx rfl (hb hby d10_22) rfl ((if0 _ _).trans (feq hgC).1) kk) ?_
    refine go_of (B := (T4.setTop (mkF m 26 #[.val (.ref a), .val (.ref bb), .val (.ref bb)] [(.ref a)]))) (fun _ kk => XS.aloadN X4.here hx rfl (hb hby d10_25) rfl rfl kk) ?_
    obtain ⟨T5, X5, e5, st5⟩ := getF X4 hx hZ hown (host := "") (Or.inl (hw _ (List.mem_of_getElem? (i := 31) rfl))) Via.refl e4 Fc (g := (mkF m 26 #[.val (.ref a), .val (.ref bb), .val (.ref bb)] [(.ref a)])) rfl rfl (hb hby d10_26)
    refine go_of (B := (T5.setTop (mkF m 29 #[.val (.ref a), .val (.ref bb), .val (.ref bb)] [(.int (0 : Int32))]))) (st5) ?_
    refine go_of (B := (T5.setTop (mkF m 30 #[.val (.ref a), .val (.ref bb), .val (.ref bb)] [(.ref bb), (.int (0 : Int32))]))) (fun _ kk => XS.aloadN X5.here hx rfl (hb hby d10_29) rfl rfl kk) ?_
    obtain ⟨T6, X6, e6, st6⟩ := getF X5 hx hZ hown (host := "") (Or.inl (hw _ (List.mem_of_getElem? (i := 31) rfl))) Via.refl e5 Fcb (g := (mkF m 30 #[.val (.ref a), .val (.ref bb), .val (.ref bb)] [(.ref bb), (.int (0 : Int32))])) rfl rfl (hb hby d10_30)
    refine go_of (B := (T6.setTop (mkF m 33 #[.val (.ref a), .val (.ref bb), .val (.ref bb)] [(.int (0 : Int32)), (.int (0 : Int32))]))) (st6) ?_
    refine go_of (B := (T6.setTop (mkF m 36 #[.val (.ref a), .val (.ref bb), .val (.ref bb)] []))) (fun _ kk => XS.icmpNo X6.here hx rfl (hb hby d10_33) rfl (teq (by decide : (0 : Int32) = (0 : Int32))).2 kk) ?_
    refine go_of (B := (T6.setTop (mkF m 37 #[.val (.ref a), .val (.ref bb), .val (.ref bb)] [(.ref a)]))) (fun _ kk => XS.aloadN X6.here hx rfl (hb hby d10_36) rfl rfl kk) ?_
    obtain ⟨T7, X7, e7, st7⟩ := getF X6 hx hZ hown (host := "") (Or.inl (hw _ (List.mem_of_getElem? (i := 30) rfl))) Via.refl e6 Fv (g := (mkF m 37 #[.val (.ref a), .val (.ref bb), .val (.ref bb)] [(.ref a)])) rfl rfl (hb hby d10_37)
    refine go_of (B := (T7.setTop (mkF m 40 #[.val (.ref a), .val (.ref bb), .val (.ref bb)] [(.ref t)]))) (st7) ?_
    refine go_of (B := (T7.setTop (mkF m 41 #[.val (.ref a), .val (.ref bb), .val (.ref bb)] [(.ref bb), (.ref t)]))) (fun _ kk => XS.aloadN X7.here hx rfl (hb hby d10_40) rfl rfl kk) ?_
    obtain ⟨T8, X8, e8, st8⟩ := getF X7 hx hZ hown (host := "") (Or.inl (hw _ (List.mem_of_getElem? (i := 30) rfl))) Via.refl e7 Fvb (g := (mkF m 41 #[.val (.ref a), .val (.ref bb), .val (.ref bb)] [(.ref bb), (.ref t)])) rfl rfl (hb hby d10_41)
    refine go_of (B := (T8.setTop (mkF m 44 #[.val (.ref a), .val (.ref bb), .val (.ref bb)] [(.ref tt), (.ref t)]))) (st8) ?_
    obtain ⟨_, _, ⟨T9, L9, k9, n9⟩, -, X9, ⟨Lc9, hQ9, l9, y9, z9⟩, st9⟩ := Jvm.LawKit.callS X8 hx (y := (⟨"java/lang/StringLatin1", "equals", "([B[B)Z"⟩ : MethodName)) hown (mvT hZ (hw _ (List.mem_of_getElem? (i := 67) rfl))) (mvT hZ (hw _ (List.mem_of_getElem? (i := 68) rfl))) (mvT hZ (hw _ (List.mem_of_getElem? (i := 69) rfl))) (mvT hZ (hw _ (List.mem_of_getElem? (i := 70) rfl))) (by decide) (backOf (W := 0) (str_lat_1_0 l Z a0 hw [] t tt (own_b8 c0) k kk h0 n0 Z0 Va Vb) hZ (hw _ (List.mem_of_getElem? (i := 70) rfl)) (hw _ (List.mem_of_getElem? (i := 69) rfl)) (by decide) (by decide)) (g := (mkF m 44 #[.val (.ref a), .val (.ref bb), .val (.ref bb)] [(.ref tt), (.ref t)])) rfl (by rw [hml]; rfl) (argsL := [(.ref t), (.ref tt)]) (rest := []) (lenOf pd___B_B_Z rfl) rfl (by show 2 * 0 + _ ≤ _; exact Nat.le_of_eq rfl) (hb hby d10_44) (fun _ _ => ⟨rfl, e8, (by decide : 0 + 0 ≤ _), (by decide : 0 + 0 ≤ _)⟩)
    dsimp only [Pt.U, Pt.locs, Pt.cells, Pt.slots] at X9 l9 y9 z9 st9 hQ9
    subst l9 y9 z9
    obtain ⟨rfl, N9q, e9⟩ := hQ9
    have N9 := Fr.app N0 N9q
    refine go_of (B := (T9.setTop (mkF m 47 #[.val (.ref a), .val (.ref bb), .val (.ref bb)] [(.int (own_eqv [(own_b8 c0)] []))]))) (st9) ?_
    by_cases hc10 : (own_eqv [(own_b8 c0)] []) = (0 : Int32)
    · refine go_of (B := (T9.setTop (mkF m 54 #[.val (.ref a), .val (.ref bb), .val (.ref bb)] []))) (fun _ kk => XS.ifYes X9.here hx rfl (pc0 := 47) (pc' := 54) rfl (hb hby d10_47) rfl ((if0 _ _).trans (teq hc10).1) (by decide) (by decide) kk) ?_
      refine go_of (B := (T9.setTop (mkF m 55 #[.val (.ref a), .val (.ref bb), .val (.ref bb)] [(.int (0 : Int32))]))) (fun _ kk => XS.iconst X9.here hx rfl (hb hby d10_54) kk) ?_
      refine go_end X9 (v := some (.int (nar .boolean (0 : Int32)))) (fun h => by rw [Bd.returns] at h; cases h) Bd.notSynchronized (by decide) (by decide) (Q := (Q_str_eq_1_0 Z a bb c0 gC h0 n0)) ?_ (fun fs hr => retN X9 hx (t := .boolean) Bd.returns (by simp) (hb hby d10_55) hr)
      show (fun (v : Option Value) (h : Heap) (L : List Loc) => v = some (.int (own_eqv [c0] [])) ∧ Fr n0 L ∧ h = h0) (some (.int (nar .boolean (0 : Int32)))) T9.heap _
      rw [e9]
      refine ⟨?_, N9, rfl⟩
      have hq := hc10
      rw [own_eqv0, show ([own_b8 c0] = []) = (List.map own_b8 [c0] = List.map own_b8 []) from rfl, own_eqmap [c0] [] hcs hds] at hq
      unfold own_eqv; simp only [hq, not_false_eq_true, if_true, if_false, nar, ↓reduceIte]; first | rfl | simp_all [nar]
    · refine go_of (B := (T9.setTop (mkF m 50 #[.val (.ref a), .val (.ref bb), .val (.ref bb)] []))) (fun _ kk => XS.ifNo X9.here hx rfl (hb hby d10_47) rfl ((if0 _ _).trans (feq hc10).1) kk) ?_
      refine go_of (B := (T9.setTop (mkF m 51 #[.val (.ref a), .val (.ref bb), .val (.ref bb)] [(.int (1 : Int32))]))) (fun _ kk => XS.iconst X9.here hx rfl (hb hby d10_50) kk) ?_
      refine go_of (B := (T9.setTop (mkF m 55 #[.val (.ref a), .val (.ref bb), .val (.ref bb)] [(.int (1 : Int32))]))) (fun _ kk => XS.goto X9.here hx rfl (pc0 := 51) (pc' := 55) rfl (hb hby d10_51) (by decide) (by decide) kk) ?_
      refine go_end X9 (v := some (.int (nar .boolean (1 : Int32)))) (fun h => by rw [Bd.returns] at h; cases h) Bd.notSynchronized (by decide) (by decide) (Q := (Q_str_eq_1_0 Z a bb c0 gC h0 n0)) ?_ (fun fs hr => retN X9 hx (t := .boolean) Bd.returns (by simp) (hb hby d10_55) hr)
      show (fun (v : Option Value) (h : Heap) (L : List Loc) => v = some (.int (own_eqv [c0] [])) ∧ Fr n0 L ∧ h = h0) (some (.int (nar .boolean (1 : Int32)))) T9.heap _
      rw [e9]
      refine ⟨?_, N9, rfl⟩
      have hq := hc10
      rw [own_eqv0, show ([own_b8 c0] = []) = (List.map own_b8 [c0] = List.map own_b8 []) from rfl, own_eqmap [c0] [] hcs hds] at hq
      unfold own_eqv; simp only [hq, not_false_eq_true, if_true, if_false, nar, ↓reduceIte]; first | rfl | simp_all [nar]
def Q_str_eq_1_1 (Z : State) (a : Addr) (bb : Addr) (c0 : Int32) (d0 : Int32) (gC : Int32) (h0 : Heap) (n0 : Nat) (v : Option Value) (h : Heap) (L : List Loc) : Prop := v = some (.int (own_eqv [c0] [d0])) ∧ Fr n0 L ∧ h = h0
theorem ef_str_eq_1_1 (m : MethodId) (a : Addr) (bb : Addr)  : entryFrame m #[(.ref a), (.ref bb)] 3 = mkF m 0 #[.val (.ref a), .val (.ref bb), .unset] [] := by first | (simp [entryFrame, mkF, argsToLocals, Value.category]; done) | rfl
set_option maxRecDepth 65536 in
set_option maxHeartbeats 40000000 in
theorem str_eq_1_1 (l : Launch) (Z : State) (a0 : Array Value) (hw : ∀ d ∈ tables_1, d.before a0 Z = true) (ws : List Jvm.Cond) (a : Addr) (bb : Addr) (c0 : Int32) (d0 : Int32) (gC : Int32) (h0 : Heap) (n0 : Nat) (Z0 : n0 ≤ h0.size) (O : Old Z n0 h0) (SC : Sta Z Z.heap "java/lang/String" "COMPACT_STRINGS" "Z" (.int gC)) (hgC : ¬ gC = (0 : Int32)) (S1 : Str Z h0 a 1 [c0]) (S2 : Str Z h0 bb 1 [d0]) (hab : a = bb → ([c0] : List Int32) = [d0]) :
    MetFree l (⟨"java/lang/String", "equals", "(Ljava/lang/Object;)Z"⟩ : MethodName) (head1 (Jvm.Cond.code (⟨"java/lang/String", "equals", "(Ljava/lang/Object;)Z"⟩ : MethodName) jdk_42_method_66_code 3 (some .boolean) :: ws) ({ frames := 1, cells := 0, slots := 0, locals := 14 } : Room)) (fun aa' U1' => aa' = #[(.ref a), (.ref bb)] ∧ Z.Warmed39 U1'.vm ∧ U1'.heap = h0) (fun _ _ _ _ _ => True) (fun _ U1' oo' U2' => ∃ vv' LL', oo' = .returned vv' ∧ (Q_str_eq_1_1 Z a bb c0 d0 gC h0 n0) vv' U2'.heap LL' ∧ FrameEnd U1' oo' U2' LL' ({ frames := 1, cells := 0, slots := 0, locals := 14 } : Room).cells ({ frames := 1, cells := 0, slots := 0, locals := 14 } : Room).slots) := by
  refine MetFree.of_bodySF (plainFor_of_name pn_java_lang_String) hisR ?_
  intro p e s m args below meth c s₁ Bd hml0 hP hK
  obtain ⟨rfl, hZ, hh⟩ := hP
  have hx := Bd.exec
  have hby := Bd.bytes
  have hml : c.maxLocals = 3 := hml0
  have hown : s.vm.findClass "java/lang/String" = some m.cls := findClass_of_methodNamed Bd.named
  have hnm := (name_of_methodNamed Bd.named Bd.method).1
  have X0 : Stand p l e ({ frames := 1, cells := 0, slots := 0, locals := 14 } : Room) s m #[(.ref a), (.ref bb)] below meth c s₁ [] 0 0 := Stand.of_body Bd
  have e0 : s₁.heap = h0 := by rw [← hh, Bd.state]; rfl
  have N0 := Fr.nil n0
  obtain ⟨t, k, Ea, Fc, Fv, Va, hcs⟩ := S1
  obtain ⟨tt, kk, Eb, Fcb, Fvb, Vb, hds⟩ := S2
  refine go_of (A := s₁.setTop (entryFrame m #[(.ref a), (.ref bb)] 3)) (B := s₁.setTop (mkF m 0 #[.val (.ref a), .val (.ref bb), .unset] [])) (fun _ kk' => castTop (ef_str_eq_1_1 m a bb) kk') ?_
  refine go_of (B := (s₁.setTop (mkF m 1 #[.val (.ref a), .val (.ref bb), .unset] [(.ref a)]))) (fun _ kk => XS.aloadN X0.here hx rfl (hb hby d10_0) rfl rfl kk) ?_
  refine go_of (B := (s₁.setTop (mkF m 2 #[.val (.ref a), .val (.ref bb), .unset] [(.ref bb), (.ref a)]))) (fun _ kk => XS.aloadN X0.here hx rfl (hb hby d10_1) rfl rfl kk) ?_
  by_cases ha1 : a = bb
  · refine go_of (B := (s₁.setTop (mkF m 5 #[.val (.ref a), .val (.ref bb), .unset] []))) (fun _ kk => Jvm.RoadKit.acmp (g := (mkF m 2 #[.val (.ref a), .val (.ref bb), .unset] [(.ref bb), (.ref a)])) X0 hx rfl rfl rfl (pc0 := 2) (pc' := 5) (same := true) rfl (hb hby d10_2) rfl (decide_eq_true (congrArg Value.ref ha1)) (by decide) (by decide) kk) ?_
    refine go_of (B := (s₁.setTop (mkF m 6 #[.val (.ref a), .val (.ref bb), .unset] [(.int (1 : Int32))]))) (fun _ kk => XS.iconst X0.here hx rfl (hb hby d10_5) kk) ?_
    refine go_end X0 (v := some (.int (nar .boolean (1 : Int32)))) (fun h => by rw [Bd.returns] at h; cases h) Bd.notSynchronized (by decide) (by decide) (Q := (Q_str_eq_1_1 Z a bb c0 d0 gC h0 n0)) ?_ (fun fs hr => retN X0 hx (t := .boolean) Bd.returns (by simp) (hb hby d10_6) hr)
    show (fun (v : Option Value) (h : Heap) (L : List Loc) => v = some (.int (own_eqv [c0] [d0])) ∧ Fr n0 L ∧ h = h0) (some (.int (nar .boolean (1 : Int32)))) s₁.heap _
    rw [e0]
    refine ⟨?_, N0, rfl⟩
    have hq := hab ha1
    simp only [own_eqv, if_pos hq]; rfl
  · refine go_of (B := (s₁.setTop (mkF m 7 #[.val (.ref a), .val (.ref bb), .unset] []))) (fun _ kk => Jvm.RoadKit.acmp (g := (mkF m 2 #[.val (.ref a), .val (.ref bb), .unset] [(.ref bb), (.ref a)])) X0 hx rfl rfl rfl (pc0 := 2) (pc' := 7) (same := false) rfl (hb hby d10_2) rfl (decide_eq_false fun q => ha1 (Value.ref.inj q)) (by decide) (by decide) kk) ?_
    refine go_of (B := (s₁.setTop (mkF m 8 #[.val (.ref a), .val (.ref bb), .unset] [(.ref bb)]))) (fun _ kk => XS.aloadN X0.here hx rfl (hb hby d10_7) rfl rfl kk) ?_
    obtain ⟨T2, X2, e2, st2⟩ := instY X0 hx hZ hown (hw _ (List.mem_of_getElem? (i := 65) rfl)) e0 (Ins.self Eb) (g := (mkF m 8 #[.val (.ref a), .val (.ref bb), .unset] [(.ref bb)])) rfl rfl (hb hby d10_8)
    refine go_of (B := (T2.setTop (mkF m 11 #[.val (.ref a), .val (.ref bb), .unset] [(.int (1 : Int32))]))) (st2) ?_
    refine go_of (B := (T2.setTop (mkF m 14 #[.val (.ref a), .val (.ref bb), .unset] []))) (fun _ kk => XS.ifNo X2.here hx rfl (hb hby d10_11) rfl ((if0 _ _).trans (feq (by decide : ¬ ((1 : Int32) = (0 : Int32)))).1) kk) ?_
    refine go_of (B := (T2.setTop (mkF m 15 #[.val (.ref a), .val (.ref bb), .unset] [(.ref bb)]))) (fun _ kk => XS.aloadN X2.here hx rfl (hb hby d10_14) rfl rfl kk) ?_
    obtain ⟨T3, X3, e3, st3⟩ := castY X2 hx hZ hown (hw _ (List.mem_of_getElem? (i := 65) rfl)) e2 (Ins.self Eb) (g := (mkF m 15 #[.val (.ref a), .val (.ref bb), .unset] [(.ref bb)])) rfl rfl (hb hby d10_15)
    refine go_of (B := (T3.setTop (mkF m 18 #[.val (.ref a), .val (.ref bb), .unset] [(.ref bb)]))) (st3) ?_
    refine go_of (B := (T3.setTop (mkF m 19 #[.val (.ref a), .val (.ref bb), .val (.ref bb)] []))) (fun _ kk => XS.astoreN X3.here hx rfl (hb hby d10_18) rfl rfl rfl kk) ?_
    obtain ⟨T4, X4, e4, st4⟩ := getS2 X3 hx hZ hown (host := "") (Or.inl (hw _ (List.mem_of_getElem? (i := 66) rfl))) Via.refl e3 (SC.ext O.2) (g := (mkF m 19 #[.val (.ref a), .val (.ref bb), .val (.ref bb)] [])) rfl (hb hby d10_19)
    refine go_of (B := (T4.setTop (mkF m 22 #[.val (.ref a), .val (.ref bb), .val (.ref bb)] [(.int gC)]))) (st4) ?_
    refine go_of (B := (T4.setTop (mkF m 25 #[.val (.ref a), .val (.ref bb), .val (.ref bb)] []))) (fun _ kk => XS.ifNo X4.here hx rfl (hb hby d10_22) rfl ((if0 _ _).trans (feq hgC).1) kk) ?_
    refine go_of (B := (T4.setTop (mkF m 26 #[.val (.ref a), .val (.ref bb), .val (.ref bb)] [(.ref a)]))) (fun _ kk => XS.aloadN X4.here hx rfl (hb hby d10_25) rfl rfl kk) ?_
    obtain ⟨T5, X5, e5, st5⟩ := getF X4 hx hZ hown (host := "") (Or.inl (hw _ (List.mem_of_getElem? (i := 31) rfl))) Via.refl e4 Fc (g := (mkF m 26 #[.val (.ref a), .val (.ref bb), .val (.ref bb)] [(.ref a)])) rfl rfl (hb hby d10_26)
    refine go_of (B := (T5.setTop (mkF m 29 #[.val (.ref a), .val (.ref bb), .val (.ref bb)] [(.int (0 : Int32))]))) (st5) ?_
    refine go_of (B := (T5.setTop (mkF m 30 #[.val (.ref a), .val (.ref bb), .val (.ref bb)] [(.ref bb), (.int (0 : Int32))]))) (fun _ kk => XS.aloadN X5.here hx rfl (hb hby d10_29) rfl rfl kk) ?_
    obtain ⟨T6, X6, e6, st6⟩ := getF X5 hx hZ hown (host := "") (Or.inl (hw _ (List.mem_of_getElem? (i := 31) rfl))) Via.refl e5 Fcb (g := (mkF m 30 #[.val (.ref a), .val (.ref bb), .val (.ref bb)] [(.ref bb), (.int (0 : Int32))])) rfl rfl (hb hby d10_30)
    refine go_of (B := (T6.setTop (mkF m 33 #[.val (.ref a), .val (.ref bb), .val (.ref bb)] [(.int (0 : Int32)), (.int (0 : Int32))]))) (st6) ?_
    refine go_of (B := (T6.setTop (mkF m 36 #[.val (.ref a), .val (.ref bb), .val (.ref bb)] []))) (fun _ kk => XS.icmpNo X6.here hx rfl (hb hby d10_33) rfl (teq (by decide : (0 : Int32) = (0 : Int32))).2 kk) ?_
    refine go_of (B := (T6.setTop (mkF m 37 #[.val (.ref a), .val (.ref bb), .val (.ref bb)] [(.ref a)]))) (fun _ kk => XS.aloadN X6.here hx rfl (hb hby d10_36) rfl rfl kk) ?_
    obtain ⟨T7, X7, e7, st7⟩ := getF X6 hx hZ hown (host := "") (Or.inl (hw _ (List.mem_of_getElem? (i := 30) rfl))) Via.refl e6 Fv (g := (mkF m 37 #[.val (.ref a), .val (.ref bb), .val (.ref bb)] [(.ref a)])) rfl rfl (hb hby d10_37)
    refine go_of (B := (T7.setTop (mkF m 40 #[.val (.ref a), .val (.ref bb), .val (.ref bb)] [(.ref t)]))) (st7) ?_
    refine go_of (B := (T7.setTop (mkF m 41 #[.val (.ref a), .val (.ref bb), .val (.ref bb)] [(.ref bb), (.ref t)]))) (fun _ kk => XS.aloadN X7.here hx rfl (hb hby d10_40) rfl rfl kk) ?_
    obtain ⟨T8, X8, e8, st8⟩ := getF X7 hx hZ hown (host := "") (Or.inl (hw _ (List.mem_of_getElem? (i := 30) rfl))) Via.refl e7 Fvb (g := (mkF m 41 #[.val (.ref a), .val (.ref bb), .val (.ref bb)] [(.ref bb), (.ref t)])) rfl rfl (hb hby d10_41)
    refine go_of (B := (T8.setTop (mkF m 44 #[.val (.ref a), .val (.ref bb), .val (.ref bb)] [(.ref tt), (.ref t)]))) (st8) ?_
    obtain ⟨_, _, ⟨T9, L9, k9, n9⟩, -, X9, ⟨Lc9, hQ9, l9, y9, z9⟩, st9⟩ := Jvm.LawKit.callS X8 hx (y := (⟨"java/lang/StringLatin1", "equals", "([B[B)Z"⟩ : MethodName)) hown (mvT hZ (hw _ (List.mem_of_getElem? (i := 67) rfl))) (mvT hZ (hw _ (List.mem_of_getElem? (i := 68) rfl))) (mvT hZ (hw _ (List.mem_of_getElem? (i := 69) rfl))) (mvT hZ (hw _ (List.mem_of_getElem? (i := 70) rfl))) (by decide) (backOf (W := 0) (str_lat_1_1 l Z a0 hw [] t tt (own_b8 c0) (own_b8 d0) k kk h0 n0 Z0 Va Vb) hZ (hw _ (List.mem_of_getElem? (i := 70) rfl)) (hw _ (List.mem_of_getElem? (i := 69) rfl)) (by decide) (by decide)) (g := (mkF m 44 #[.val (.ref a), .val (.ref bb), .val (.ref bb)] [(.ref tt), (.ref t)])) rfl (by rw [hml]; rfl) (argsL := [(.ref t), (.ref tt)]) (rest := []) (lenOf pd___B_B_Z rfl) rfl (by show 2 * 0 + _ ≤ _; exact Nat.le_of_eq rfl) (hb hby d10_44) (fun _ _ => ⟨rfl, e8, (by decide : 0 + 0 ≤ _), (by decide : 0 + 0 ≤ _)⟩)
    dsimp only [Pt.U, Pt.locs, Pt.cells, Pt.slots] at X9 l9 y9 z9 st9 hQ9
    subst l9 y9 z9
    obtain ⟨rfl, N9q, e9⟩ := hQ9
    have N9 := Fr.app N0 N9q
    refine go_of (B := (T9.setTop (mkF m 47 #[.val (.ref a), .val (.ref bb), .val (.ref bb)] [(.int (own_eqv [(own_b8 c0)] [(own_b8 d0)]))]))) (st9) ?_
    by_cases hc10 : (own_eqv [(own_b8 c0)] [(own_b8 d0)]) = (0 : Int32)
    · refine go_of (B := (T9.setTop (mkF m 54 #[.val (.ref a), .val (.ref bb), .val (.ref bb)] []))) (fun _ kk => XS.ifYes X9.here hx rfl (pc0 := 47) (pc' := 54) rfl (hb hby d10_47) rfl ((if0 _ _).trans (teq hc10).1) (by decide) (by decide) kk) ?_
      refine go_of (B := (T9.setTop (mkF m 55 #[.val (.ref a), .val (.ref bb), .val (.ref bb)] [(.int (0 : Int32))]))) (fun _ kk => XS.iconst X9.here hx rfl (hb hby d10_54) kk) ?_
      refine go_end X9 (v := some (.int (nar .boolean (0 : Int32)))) (fun h => by rw [Bd.returns] at h; cases h) Bd.notSynchronized (by decide) (by decide) (Q := (Q_str_eq_1_1 Z a bb c0 d0 gC h0 n0)) ?_ (fun fs hr => retN X9 hx (t := .boolean) Bd.returns (by simp) (hb hby d10_55) hr)
      show (fun (v : Option Value) (h : Heap) (L : List Loc) => v = some (.int (own_eqv [c0] [d0])) ∧ Fr n0 L ∧ h = h0) (some (.int (nar .boolean (0 : Int32)))) T9.heap _
      rw [e9]
      refine ⟨?_, N9, rfl⟩
      have hq := hc10
      rw [own_eqv0, show ([own_b8 c0] = [own_b8 d0]) = (List.map own_b8 [c0] = List.map own_b8 [d0]) from rfl, own_eqmap [c0] [d0] hcs hds] at hq
      unfold own_eqv; simp only [hq, not_false_eq_true, if_true, if_false, nar, ↓reduceIte]; first | rfl | simp_all [nar]
    · refine go_of (B := (T9.setTop (mkF m 50 #[.val (.ref a), .val (.ref bb), .val (.ref bb)] []))) (fun _ kk => XS.ifNo X9.here hx rfl (hb hby d10_47) rfl ((if0 _ _).trans (feq hc10).1) kk) ?_
      refine go_of (B := (T9.setTop (mkF m 51 #[.val (.ref a), .val (.ref bb), .val (.ref bb)] [(.int (1 : Int32))]))) (fun _ kk => XS.iconst X9.here hx rfl (hb hby d10_50) kk) ?_
      refine go_of (B := (T9.setTop (mkF m 55 #[.val (.ref a), .val (.ref bb), .val (.ref bb)] [(.int (1 : Int32))]))) (fun _ kk => XS.goto X9.here hx rfl (pc0 := 51) (pc' := 55) rfl (hb hby d10_51) (by decide) (by decide) kk) ?_
      refine go_end X9 (v := some (.int (nar .boolean (1 : Int32)))) (fun h => by rw [Bd.returns] at h; cases h) Bd.notSynchronized (by decide) (by decide) (Q := (Q_str_eq_1_1 Z a bb c0 d0 gC h0 n0)) ?_ (fun fs hr => retN X9 hx (t := .boolean) Bd.returns (by simp) (hb hby d10_55) hr)
      show (fun (v : Option Value) (h : Heap) (L : List Loc) => v = some (.int (own_eqv [c0] [d0])) ∧ Fr n0 L ∧ h = h0) (some (.int (nar .boolean (1 : Int32)))) T9.heap _
      rw [e9]
      refine ⟨?_, N9, rfl⟩
      have hq := hc10
      rw [own_eqv0, show ([own_b8 c0] = [own_b8 d0]) = (List.map own_b8 [c0] = List.map own_b8 [d0]) from rfl, own_eqmap [c0] [d0] hcs hds] at hq
      unfold own_eqv; simp only [hq, not_false_eq_true, if_true, if_false, nar, ↓reduceIte]; first | rfl | simp_all [nar]
def Q_str_eq_1_2 (Z : State) (a : Addr) (bb : Addr) (c0 : Int32) (d0 : Int32) (d1 : Int32) (gC : Int32) (h0 : Heap) (n0 : Nat) (v : Option Value) (h : Heap) (L : List Loc) : Prop := v = some (.int (own_eqv [c0] [d0, d1])) ∧ Fr n0 L ∧ h = h0
theorem ef_str_eq_1_2 (m : MethodId) (a : Addr) (bb : Addr)  : entryFrame m #[(.ref a), (.ref bb)] 3 = mkF m 0 #[.val (.ref a), .val (.ref bb), .unset] [] := by first | (simp [entryFrame, mkF, argsToLocals, Value.category]; done) | rfl
set_option maxRecDepth 65536 in
set_option maxHeartbeats 40000000 in
theorem str_eq_1_2 (l : Launch) (Z : State) (a0 : Array Value) (hw : ∀ d ∈ tables_1, d.before a0 Z = true) (ws : List Jvm.Cond) (a : Addr) (bb : Addr) (c0 : Int32) (d0 : Int32) (d1 : Int32) (gC : Int32) (h0 : Heap) (n0 : Nat) (Z0 : n0 ≤ h0.size) (O : Old Z n0 h0) (SC : Sta Z Z.heap "java/lang/String" "COMPACT_STRINGS" "Z" (.int gC)) (hgC : ¬ gC = (0 : Int32)) (S1 : Str Z h0 a 1 [c0]) (S2 : Str Z h0 bb 2 [d0, d1]) (hab : a = bb → ([c0] : List Int32) = [d0, d1]) :
    MetFree l (⟨"java/lang/String", "equals", "(Ljava/lang/Object;)Z"⟩ : MethodName) (head1 (Jvm.Cond.code (⟨"java/lang/String", "equals", "(Ljava/lang/Object;)Z"⟩ : MethodName) jdk_42_method_66_code 3 (some .boolean) :: ws) ({ frames := 1, cells := 0, slots := 0, locals := 14 } : Room)) (fun aa' U1' => aa' = #[(.ref a), (.ref bb)] ∧ Z.Warmed39 U1'.vm ∧ U1'.heap = h0) (fun _ _ _ _ _ => True) (fun _ U1' oo' U2' => ∃ vv' LL', oo' = .returned vv' ∧ (Q_str_eq_1_2 Z a bb c0 d0 d1 gC h0 n0) vv' U2'.heap LL' ∧ FrameEnd U1' oo' U2' LL' ({ frames := 1, cells := 0, slots := 0, locals := 14 } : Room).cells ({ frames := 1, cells := 0, slots := 0, locals := 14 } : Room).slots) := by
  refine MetFree.of_bodySF (plainFor_of_name pn_java_lang_String) hisR ?_
  intro p e s m args below meth c s₁ Bd hml0 hP hK
  obtain ⟨rfl, hZ, hh⟩ := hP
  have hx := Bd.exec
  have hby := Bd.bytes
  have hml : c.maxLocals = 3 := hml0
  have hown : s.vm.findClass "java/lang/String" = some m.cls := findClass_of_methodNamed Bd.named
  have hnm := (name_of_methodNamed Bd.named Bd.method).1
  have X0 : Stand p l e ({ frames := 1, cells := 0, slots := 0, locals := 14 } : Room) s m #[(.ref a), (.ref bb)] below meth c s₁ [] 0 0 := Stand.of_body Bd
  have e0 : s₁.heap = h0 := by rw [← hh, Bd.state]; rfl
  have N0 := Fr.nil n0
  obtain ⟨t, k, Ea, Fc, Fv, Va, hcs⟩ := S1
  obtain ⟨tt, kk, Eb, Fcb, Fvb, Vb, hds⟩ := S2
  refine go_of (A := s₁.setTop (entryFrame m #[(.ref a), (.ref bb)] 3)) (B := s₁.setTop (mkF m 0 #[.val (.ref a), .val (.ref bb), .unset] [])) (fun _ kk' => castTop (ef_str_eq_1_2 m a bb) kk') ?_
  refine go_of (B := (s₁.setTop (mkF m 1 #[.val (.ref a), .val (.ref bb), .unset] [(.ref a)]))) (fun _ kk => XS.aloadN X0.here hx rfl (hb hby d10_0) rfl rfl kk) ?_
  refine go_of (B := (s₁.setTop (mkF m 2 #[.val (.ref a), .val (.ref bb), .unset] [(.ref bb), (.ref a)]))) (fun _ kk => XS.aloadN X0.here hx rfl (hb hby d10_1) rfl rfl kk) ?_
  by_cases ha1 : a = bb
  · refine go_of (B := (s₁.setTop (mkF m 5 #[.val (.ref a), .val (.ref bb), .unset] []))) (fun _ kk => Jvm.RoadKit.acmp (g := (mkF m 2 #[.val (.ref a), .val (.ref bb), .unset] [(.ref bb), (.ref a)])) X0 hx rfl rfl rfl (pc0 := 2) (pc' := 5) (same := true) rfl (hb hby d10_2) rfl (decide_eq_true (congrArg Value.ref ha1)) (by decide) (by decide) kk) ?_
    refine go_of (B := (s₁.setTop (mkF m 6 #[.val (.ref a), .val (.ref bb), .unset] [(.int (1 : Int32))]))) (fun _ kk => XS.iconst X0.here hx rfl (hb hby d10_5) kk) ?_
    refine go_end X0 (v := some (.int (nar .boolean (1 : Int32)))) (fun h => by rw [Bd.returns] at h; cases h) Bd.notSynchronized (by decide) (by decide) (Q := (Q_str_eq_1_2 Z a bb c0 d0 d1 gC h0 n0)) ?_ (fun fs hr => retN X0 hx (t := .boolean) Bd.returns (by simp) (hb hby d10_6) hr)
    show (fun (v : Option Value) (h : Heap) (L : List Loc) => v = some (.int (own_eqv [c0] [d0, d1])) ∧ Fr n0 L ∧ h = h0) (some (.int (nar .boolean (1 : Int32)))) s₁.heap _
    rw [e0]
    refine ⟨?_, N0, rfl⟩
    have hq := hab ha1
    simp only [own_eqv, if_pos hq]; rfl
  · refine go_of (B := (s₁.setTop (mkF m 7 #[.val (.ref a), .val (.ref bb), .unset] []))) (fun _ kk => Jvm.RoadKit.acmp (g := (mkF m 2 #[.val (.ref a), .val (.ref bb), .unset] [(.ref bb), (.ref a)])) X0 hx rfl rfl rfl (pc0 := 2) (pc' := 7) (same := false) rfl (hb hby d10_2) rfl (decide_eq_false fun q => ha1 (Value.ref.inj q)) (by decide) (by decide) kk) ?_
    refine go_of (B := (s₁.setTop (mkF m 8 #[.val (.ref a), .val (.ref bb), .unset] [(.ref bb)]))) (fun _ kk => XS.aloadN X0.here hx rfl (hb hby d10_7) rfl rfl kk) ?_
    obtain ⟨T2, X2, e2, st2⟩ := instY X0 hx hZ hown (hw _ (List.mem_of_getElem? (i := 65) rfl)) e0 (Ins.self Eb) (g := (mkF m 8 #[.val (.ref a), .val (.ref bb), .unset] [(.ref bb)])) rfl rfl (hb hby d10_8)
    refine go_of (B := (T2.setTop (mkF m 11 #[.val (.ref a), .val (.ref bb), .unset] [(.int (1 : Int32))]))) (st2) ?_
    refine go_of (B := (T2.setTop (mkF m 14 #[.val (.ref a), .val (.ref bb), .unset] []))) (fun _ kk => XS.ifNo X2.here hx rfl (hb hby d10_11) rfl ((if0 _ _).trans (feq (by decide : ¬ ((1 : Int32) = (0 : Int32)))).1) kk) ?_
    refine go_of (B := (T2.setTop (mkF m 15 #[.val (.ref a), .val (.ref bb), .unset] [(.ref bb)]))) (fun _ kk => XS.aloadN X2.here hx rfl (hb hby d10_14) rfl rfl kk) ?_
    obtain ⟨T3, X3, e3, st3⟩ := castY X2 hx hZ hown (hw _ (List.mem_of_getElem? (i := 65) rfl)) e2 (Ins.self Eb) (g := (mkF m 15 #[.val (.ref a), .val (.ref bb), .unset] [(.ref bb)])) rfl rfl (hb hby d10_15)
    refine go_of (B := (T3.setTop (mkF m 18 #[.val (.ref a), .val (.ref bb), .unset] [(.ref bb)]))) (st3) ?_
    refine go_of (B := (T3.setTop (mkF m 19 #[.val (.ref a), .val (.ref bb), .val (.ref bb)] []))) (fun _ kk => XS.astoreN X3.here hx rfl (hb hby d10_18) rfl rfl rfl kk) ?_
    obtain ⟨T4, X4, e4, st4⟩ := getS2 X3 hx hZ hown (host := "") (Or.inl (hw _ (List.mem_of_getElem? (i := 66) rfl))) Via.refl e3 (SC.ext O.2) (g := (mkF m 19 #[.val (.ref a), .val (.ref bb), .val (.ref bb)] [])) rfl (hb hby d10_19)
    refine go_of (B := (T4.setTop (mkF m 22 #[.val (.ref a), .val (.ref bb), .val (.ref bb)] [(.int gC)]))) (st4) ?_
    refine go_of (B := (T4.setTop (mkF m 25 #[.val (.ref a), .val (.ref bb), .val (.ref bb)] []))) (fun _ kk => XS.ifNo X4.here hx rfl (hb hby d10_22) rfl ((if0 _ _).trans (feq hgC).1) kk) ?_
    refine go_of (B := (T4.setTop (mkF m 26 #[.val (.ref a), .val (.ref bb), .val (.ref bb)] [(.ref a)]))) (fun _ kk => XS.aloadN X4.here hx rfl (hb hby d10_25) rfl rfl kk) ?_
    obtain ⟨T5, X5, e5, st5⟩ := getF X4 hx hZ hown (host := "") (Or.inl (hw _ (List.mem_of_getElem? (i := 31) rfl))) Via.refl e4 Fc (g := (mkF m 26 #[.val (.ref a), .val (.ref bb), .val (.ref bb)] [(.ref a)])) rfl rfl (hb hby d10_26)
    refine go_of (B := (T5.setTop (mkF m 29 #[.val (.ref a), .val (.ref bb), .val (.ref bb)] [(.int (0 : Int32))]))) (st5) ?_
    refine go_of (B := (T5.setTop (mkF m 30 #[.val (.ref a), .val (.ref bb), .val (.ref bb)] [(.ref bb), (.int (0 : Int32))]))) (fun _ kk => XS.aloadN X5.here hx rfl (hb hby d10_29) rfl rfl kk) ?_
    obtain ⟨T6, X6, e6, st6⟩ := getF X5 hx hZ hown (host := "") (Or.inl (hw _ (List.mem_of_getElem? (i := 31) rfl))) Via.refl e5 Fcb (g := (mkF m 30 #[.val (.ref a), .val (.ref bb), .val (.ref bb)] [(.ref bb), (.int (0 : Int32))])) rfl rfl (hb hby d10_30)
    refine go_of (B := (T6.setTop (mkF m 33 #[.val (.ref a), .val (.ref bb), .val (.ref bb)] [(.int (0 : Int32)), (.int (0 : Int32))]))) (st6) ?_
    refine go_of (B := (T6.setTop (mkF m 36 #[.val (.ref a), .val (.ref bb), .val (.ref bb)] []))) (fun _ kk => XS.icmpNo X6.here hx rfl (hb hby d10_33) rfl (teq (by decide : (0 : Int32) = (0 : Int32))).2 kk) ?_
    refine go_of (B := (T6.setTop (mkF m 37 #[.val (.ref a), .val (.ref bb), .val (.ref bb)] [(.ref a)]))) (fun _ kk => XS.aloadN X6.here hx rfl (hb hby d10_36) rfl rfl kk) ?_
    obtain ⟨T7, X7, e7, st7⟩ := getF X6 hx hZ hown (host := "") (Or.inl (hw _ (List.mem_of_getElem? (i := 30) rfl))) Via.refl e6 Fv (g := (mkF m 37 #[.val (.ref a), .val (.ref bb), .val (.ref bb)] [(.ref a)])) rfl rfl (hb hby d10_37)
    refine go_of (B := (T7.setTop (mkF m 40 #[.val (.ref a), .val (.ref bb), .val (.ref bb)] [(.ref t)]))) (st7) ?_
    refine go_of (B := (T7.setTop (mkF m 41 #[.val (.ref a), .val (.ref bb), .val (.ref bb)] [(.ref bb), (.ref t)]))) (fun _ kk => XS.aloadN X7.here hx rfl (hb hby d10_40) rfl rfl kk) ?_
    obtain ⟨T8, X8, e8, st8⟩ := getF X7 hx hZ hown (host := "") (Or.inl (hw _ (List.mem_of_getElem? (i := 30) rfl))) Via.refl e7 Fvb (g := (mkF m 41 #[.val (.ref a), .val (.ref bb), .val (.ref bb)] [(.ref bb), (.ref t)])) rfl rfl (hb hby d10_41)
    refine go_of (B := (T8.setTop (mkF m 44 #[.val (.ref a), .val (.ref bb), .val (.ref bb)] [(.ref tt), (.ref t)]))) (st8) ?_
    obtain ⟨_, _, ⟨T9, L9, k9, n9⟩, -, X9, ⟨Lc9, hQ9, l9, y9, z9⟩, st9⟩ := Jvm.LawKit.callS X8 hx (y := (⟨"java/lang/StringLatin1", "equals", "([B[B)Z"⟩ : MethodName)) hown (mvT hZ (hw _ (List.mem_of_getElem? (i := 67) rfl))) (mvT hZ (hw _ (List.mem_of_getElem? (i := 68) rfl))) (mvT hZ (hw _ (List.mem_of_getElem? (i := 69) rfl))) (mvT hZ (hw _ (List.mem_of_getElem? (i := 70) rfl))) (by decide) (backOf (W := 0) (str_lat_1_2 l Z a0 hw [] t tt (own_b8 c0) (own_b8 d0) (own_b8 d1) k kk h0 n0 Z0 Va Vb) hZ (hw _ (List.mem_of_getElem? (i := 70) rfl)) (hw _ (List.mem_of_getElem? (i := 69) rfl)) (by decide) (by decide)) (g := (mkF m 44 #[.val (.ref a), .val (.ref bb), .val (.ref bb)] [(.ref tt), (.ref t)])) rfl (by rw [hml]; rfl) (argsL := [(.ref t), (.ref tt)]) (rest := []) (lenOf pd___B_B_Z rfl) rfl (by show 2 * 0 + _ ≤ _; exact Nat.le_of_eq rfl) (hb hby d10_44) (fun _ _ => ⟨rfl, e8, (by decide : 0 + 0 ≤ _), (by decide : 0 + 0 ≤ _)⟩)
    dsimp only [Pt.U, Pt.locs, Pt.cells, Pt.slots] at X9 l9 y9 z9 st9 hQ9
    subst l9 y9 z9
    obtain ⟨rfl, N9q, e9⟩ := hQ9
    have N9 := Fr.app N0 N9q
    refine go_of (B := (T9.setTop (mkF m 47 #[.val (.ref a), .val (.ref bb), .val (.ref bb)] [(.int (own_eqv [(own_b8 c0)] [(own_b8 d0), (own_b8 d1)]))]))) (st9) ?_
    by_cases hc10 : (own_eqv [(own_b8 c0)] [(own_b8 d0), (own_b8 d1)]) = (0 : Int32)
    · refine go_of (B := (T9.setTop (mkF m 54 #[.val (.ref a), .val (.ref bb), .val (.ref bb)] []))) (fun _ kk => XS.ifYes X9.here hx rfl (pc0 := 47) (pc' := 54) rfl (hb hby d10_47) rfl ((if0 _ _).trans (teq hc10).1) (by decide) (by decide) kk) ?_
      refine go_of (B := (T9.setTop (mkF m 55 #[.val (.ref a), .val (.ref bb), .val (.ref bb)] [(.int (0 : Int32))]))) (fun _ kk => XS.iconst X9.here hx rfl (hb hby d10_54) kk) ?_
      refine go_end X9 (v := some (.int (nar .boolean (0 : Int32)))) (fun h => by rw [Bd.returns] at h; cases h) Bd.notSynchronized (by decide) (by decide) (Q := (Q_str_eq_1_2 Z a bb c0 d0 d1 gC h0 n0)) ?_ (fun fs hr => retN X9 hx (t := .boolean) Bd.returns (by simp) (hb hby d10_55) hr)
      show (fun (v : Option Value) (h : Heap) (L : List Loc) => v = some (.int (own_eqv [c0] [d0, d1])) ∧ Fr n0 L ∧ h = h0) (some (.int (nar .boolean (0 : Int32)))) T9.heap _
      rw [e9]
      refine ⟨?_, N9, rfl⟩
      have hq := hc10
      rw [own_eqv0, show ([own_b8 c0] = [own_b8 d0, own_b8 d1]) = (List.map own_b8 [c0] = List.map own_b8 [d0, d1]) from rfl, own_eqmap [c0] [d0, d1] hcs hds] at hq
      unfold own_eqv; simp only [hq, not_false_eq_true, if_true, if_false, nar, ↓reduceIte]; first | rfl | simp_all [nar]
    · refine go_of (B := (T9.setTop (mkF m 50 #[.val (.ref a), .val (.ref bb), .val (.ref bb)] []))) (fun _ kk => XS.ifNo X9.here hx rfl (hb hby d10_47) rfl ((if0 _ _).trans (feq hc10).1) kk) ?_
      refine go_of (B := (T9.setTop (mkF m 51 #[.val (.ref a), .val (.ref bb), .val (.ref bb)] [(.int (1 : Int32))]))) (fun _ kk => XS.iconst X9.here hx rfl (hb hby d10_50) kk) ?_
      refine go_of (B := (T9.setTop (mkF m 55 #[.val (.ref a), .val (.ref bb), .val (.ref bb)] [(.int (1 : Int32))]))) (fun _ kk => XS.goto X9.here hx rfl (pc0 := 51) (pc' := 55) rfl (hb hby d10_51) (by decide) (by decide) kk) ?_
      refine go_end X9 (v := some (.int (nar .boolean (1 : Int32)))) (fun h => by rw [Bd.returns] at h; cases h) Bd.notSynchronized (by decide) (by decide) (Q := (Q_str_eq_1_2 Z a bb c0 d0 d1 gC h0 n0)) ?_ (fun fs hr => retN X9 hx (t := .boolean) Bd.returns (by simp) (hb hby d10_55) hr)
      show (fun (v : Option Value) (h : Heap) (L : List Loc) => v = some (.int (own_eqv [c0] [d0, d1])) ∧ Fr n0 L ∧ h = h0) (some (.int (nar .boolean (1 : Int32)))) T9.heap _
      rw [e9]
      refine ⟨?_, N9, rfl⟩
      have hq := hc10
      rw [own_eqv0, show ([own_b8 c0] = [own_b8 d0, own_b8 d1]) = (List.map own_b8 [c0] = List.map own_b8 [d0, d1]) from rfl, own_eqmap [c0] [d0, d1] hcs hds] at hq
      unfold own_eqv; simp only [hq, not_false_eq_true, if_true, if_false, nar, ↓reduceIte]; first | rfl | simp_all [nar]
def Q_str_eq_2_0 (Z : State) (a : Addr) (bb : Addr) (c0 : Int32) (c1 : Int32) (gC : Int32) (h0 : Heap) (n0 : Nat) (v : Option Value) (h : Heap) (L : List Loc) : Prop := v = some (.int (own_eqv [c0, c1] [])) ∧ Fr n0 L ∧ h = h0
theorem ef_str_eq_2_0 (m : MethodId) (a : Addr) (bb : Addr)  : entryFrame m #[(.ref a), (.ref bb)] 3 = mkF m 0 #[.val (.ref a), .val (.ref bb), .unset] [] := by first | (simp [entryFrame, mkF, argsToLocals, Value.category]; done) | rfl
set_option maxRecDepth 65536 in
set_option maxHeartbeats 40000000 in
theorem str_eq_2_0 (l : Launch) (Z : State) (a0 : Array Value) (hw : ∀ d ∈ tables_1, d.before a0 Z = true) (ws : List Jvm.Cond) (a : Addr) (bb : Addr) (c0 : Int32) (c1 : Int32) (gC : Int32) (h0 : Heap) (n0 : Nat) (Z0 : n0 ≤ h0.size) (O : Old Z n0 h0) (SC : Sta Z Z.heap "java/lang/String" "COMPACT_STRINGS" "Z" (.int gC)) (hgC : ¬ gC = (0 : Int32)) (S1 : Str Z h0 a 2 [c0, c1]) (S2 : Str Z h0 bb 0 []) (hab : a = bb → ([c0, c1] : List Int32) = []) :
    MetFree l (⟨"java/lang/String", "equals", "(Ljava/lang/Object;)Z"⟩ : MethodName) (head1 (Jvm.Cond.code (⟨"java/lang/String", "equals", "(Ljava/lang/Object;)Z"⟩ : MethodName) jdk_42_method_66_code 3 (some .boolean) :: ws) ({ frames := 1, cells := 0, slots := 0, locals := 14 } : Room)) (fun aa' U1' => aa' = #[(.ref a), (.ref bb)] ∧ Z.Warmed39 U1'.vm ∧ U1'.heap = h0) (fun _ _ _ _ _ => True) (fun _ U1' oo' U2' => ∃ vv' LL', oo' = .returned vv' ∧ (Q_str_eq_2_0 Z a bb c0 c1 gC h0 n0) vv' U2'.heap LL' ∧ FrameEnd U1' oo' U2' LL' ({ frames := 1, cells := 0, slots := 0, locals := 14 } : Room).cells ({ frames := 1, cells := 0, slots := 0, locals := 14 } : Room).slots) := by
  refine MetFree.of_bodySF (plainFor_of_name pn_java_lang_String) hisR ?_
  intro p e s m args below meth c s₁ Bd hml0 hP hK
  obtain ⟨rfl, hZ, hh⟩ := hP
  have hx := Bd.exec
  have hby := Bd.bytes
  have hml : c.maxLocals = 3 := hml0
  have hown : s.vm.findClass "java/lang/String" = some m.cls := findClass_of_methodNamed Bd.named
  have hnm := (name_of_methodNamed Bd.named Bd.method).1
  have X0 : Stand p l e ({ frames := 1, cells := 0, slots := 0, locals := 14 } : Room) s m #[(.ref a), (.ref bb)] below meth c s₁ [] 0 0 := Stand.of_body Bd
  have e0 : s₁.heap = h0 := by rw [← hh, Bd.state]; rfl
  have N0 := Fr.nil n0
  obtain ⟨t, k, Ea, Fc, Fv, Va, hcs⟩ := S1
  obtain ⟨tt, kk, Eb, Fcb, Fvb, Vb, hds⟩ := S2
  refine go_of (A := s₁.setTop (entryFrame m #[(.ref a), (.ref bb)] 3)) (B := s₁.setTop (mkF m 0 #[.val (.ref a), .val (.ref bb), .unset] [])) (fun _ kk' => castTop (ef_str_eq_2_0 m a bb) kk') ?_
  refine go_of (B := (s₁.setTop (mkF m 1 #[.val (.ref a), .val (.ref bb), .unset] [(.ref a)]))) (fun _ kk => XS.aloadN X0.here hx rfl (hb hby d10_0) rfl rfl kk) ?_
  refine go_of (B := (s₁.setTop (mkF m 2 #[.val (.ref a), .val (.ref bb), .unset] [(.ref bb), (.ref a)]))) (fun _ kk => XS.aloadN X0.here hx rfl (hb hby d10_1) rfl rfl kk) ?_
  by_cases ha1 : a = bb
  · refine go_of (B := (s₁.setTop (mkF m 5 #[.val (.ref a), .val (.ref bb), .unset] []))) (fun _ kk => Jvm.RoadKit.acmp (g := (mkF m 2 #[.val (.ref a), .val (.ref bb), .unset] [(.ref bb), (.ref a)])) X0 hx rfl rfl rfl (pc0 := 2) (pc' := 5) (same := true) rfl (hb hby d10_2) rfl (decide_eq_true (congrArg Value.ref ha1)) (by decide) (by decide) kk) ?_
    refine go_of (B := (s₁.setTop (mkF m 6 #[.val (.ref a), .val (.ref bb), .unset] [(.int (1 : Int32))]))) (fun _ kk => XS.iconst X0.here hx rfl (hb hby d10_5) kk) ?_
    refine go_end X0 (v := some (.int (nar .boolean (1 : Int32)))) (fun h => by rw [Bd.returns] at h; cases h) Bd.notSynchronized (by decide) (by decide) (Q := (Q_str_eq_2_0 Z a bb c0 c1 gC h0 n0)) ?_ (fun fs hr => retN X0 hx (t := .boolean) Bd.returns (by simp) (hb hby d10_6) hr)
    show (fun (v : Option Value) (h : Heap) (L : List Loc) => v = some (.int (own_eqv [c0, c1] [])) ∧ Fr n0 L ∧ h = h0) (some (.int (nar .boolean (1 : Int32)))) s₁.heap _
    rw [e0]
    refine ⟨?_, N0, rfl⟩
    have hq := hab ha1
    simp only [own_eqv, if_pos hq]; rfl
  · refine go_of (B := (s₁.setTop (mkF m 7 #[.val (.ref a), .val (.ref bb), .unset] []))) (fun _ kk => Jvm.RoadKit.acmp (g := (mkF m 2 #[.val (.ref a), .val (.ref bb), .unset] [(.ref bb), (.ref a)])) X0 hx rfl rfl rfl (pc0 := 2) (pc' := 7) (same := false) rfl (hb hby d10_2) rfl (decide_eq_false fun q => ha1 (Value.ref.inj q)) (by decide) (by decide) kk) ?_
    refine go_of (B := (s₁.setTop (mkF m 8 #[.val (.ref a), .val (.ref bb), .unset] [(.ref bb)]))) (fun _ kk => XS.aloadN X0.here hx rfl (hb hby d10_7) rfl rfl kk) ?_
    obtain ⟨T2, X2, e2, st2⟩ := instY X0 hx hZ hown (hw _ (List.mem_of_getElem? (i := 65) rfl)) e0 (Ins.self Eb) (g := (mkF m 8 #[.val (.ref a), .val (.ref bb), .unset] [(.ref bb)])) rfl rfl (hb hby d10_8)
    refine go_of (B := (T2.setTop (mkF m 11 #[.val (.ref a), .val (.ref bb), .unset] [(.int (1 : Int32))]))) (st2) ?_
    refine go_of (B := (T2.setTop (mkF m 14 #[.val (.ref a), .val (.ref bb), .unset] []))) (fun _ kk => XS.ifNo X2.here hx rfl (hb hby d10_11) rfl ((if0 _ _).trans (feq (by decide : ¬ ((1 : Int32) = (0 : Int32)))).1) kk) ?_
    refine go_of (B := (T2.setTop (mkF m 15 #[.val (.ref a), .val (.ref bb), .unset] [(.ref bb)]))) (fun _ kk => XS.aloadN X2.here hx rfl (hb hby d10_14) rfl rfl kk) ?_
    obtain ⟨T3, X3, e3, st3⟩ := castY X2 hx hZ hown (hw _ (List.mem_of_getElem? (i := 65) rfl)) e2 (Ins.self Eb) (g := (mkF m 15 #[.val (.ref a), .val (.ref bb), .unset] [(.ref bb)])) rfl rfl (hb hby d10_15)
    refine go_of (B := (T3.setTop (mkF m 18 #[.val (.ref a), .val (.ref bb), .unset] [(.ref bb)]))) (st3) ?_
    refine go_of (B := (T3.setTop (mkF m 19 #[.val (.ref a), .val (.ref bb), .val (.ref bb)] []))) (fun _ kk => XS.astoreN X3.here hx rfl (hb hby d10_18) rfl rfl rfl kk) ?_
    obtain ⟨T4, X4, e4, st4⟩ := getS2 X3 hx hZ hown (host := "") (Or.inl (hw _ (List.mem_of_getElem? (i := 66) rfl))) Via.refl e3 (SC.ext O.2) (g := (mkF m 19 #[.val (.ref a), .val (.ref bb), .val (.ref bb)] [])) rfl (hb hby d10_19)
    refine go_of (B := (T4.setTop (mkF m 22 #[.val (.ref a), .val (.ref bb), .val (.ref bb)] [(.int gC)]))) (st4) ?_
    refine go_of (B := (T4.setTop (mkF m 25 #[.val (.ref a), .val (.ref bb), .val (.ref bb)] []))) (fun _ kk => XS.ifNo X4.here hx rfl (hb hby d10_22) rfl ((if0 _ _).trans (feq hgC).1) kk) ?_
    refine go_of (B := (T4.setTop (mkF m 26 #[.val (.ref a), .val (.ref bb), .val (.ref bb)] [(.ref a)]))) (fun _ kk => XS.aloadN X4.here hx rfl (hb hby d10_25) rfl rfl kk) ?_
    obtain ⟨T5, X5, e5, st5⟩ := getF X4 hx hZ hown (host := "") (Or.inl (hw _ (List.mem_of_getElem? (i := 31) rfl))) Via.refl e4 Fc (g := (mkF m 26 #[.val (.ref a), .val (.ref bb), .val (.ref bb)] [(.ref a)])) rfl rfl (hb hby d10_26)
    refine go_of (B := (T5.setTop (mkF m 29 #[.val (.ref a), .val (.ref bb), .val (.ref bb)] [(.int (0 : Int32))]))) (st5) ?_
    refine go_of (B := (T5.setTop (mkF m 30 #[.val (.ref a), .val (.ref bb), .val (.ref bb)] [(.ref bb), (.int (0 : Int32))]))) (fun _ kk => XS.aloadN X5.here hx rfl (hb hby d10_29) rfl rfl kk) ?_
    obtain ⟨T6, X6, e6, st6⟩ := getF X5 hx hZ hown (host := "") (Or.inl (hw _ (List.mem_of_getElem? (i := 31) rfl))) Via.refl e5 Fcb (g := (mkF m 30 #[.val (.ref a), .val (.ref bb), .val (.ref bb)] [(.ref bb), (.int (0 : Int32))])) rfl rfl (hb hby d10_30)
    refine go_of (B := (T6.setTop (mkF m 33 #[.val (.ref a), .val (.ref bb), .val (.ref bb)] [(.int (0 : Int32)), (.int (0 : Int32))]))) (st6) ?_
    refine go_of (B := (T6.setTop (mkF m 36 #[.val (.ref a), .val (.ref bb), .val (.ref bb)] []))) (fun _ kk => XS.icmpNo X6.here hx rfl (hb hby d10_33) rfl (teq (by decide : (0 : Int32) = (0 : Int32))).2 kk) ?_
    refine go_of (B := (T6.setTop (mkF m 37 #[.val (.ref a), .val (.ref bb), .val (.ref bb)] [(.ref a)]))) (fun _ kk => XS.aloadN X6.here hx rfl (hb hby d10_36) rfl rfl kk) ?_
    obtain ⟨T7, X7, e7, st7⟩ := getF X6 hx hZ hown (host := "") (Or.inl (hw _ (List.mem_of_getElem? (i := 30) rfl))) Via.refl e6 Fv (g := (mkF m 37 #[.val (.ref a), .val (.ref bb), .val (.ref bb)] [(.ref a)])) rfl rfl (hb hby d10_37)
    refine go_of (B := (T7.setTop (mkF m 40 #[.val (.ref a), .val (.ref bb), .val (.ref bb)] [(.ref t)]))) (st7) ?_
    refine go_of (B := (T7.setTop (mkF m 41 #[.val (.ref a), .val (.ref bb), .val (.ref bb)] [(.ref bb), (.ref t)]))) (fun _ kk => XS.aloadN X7.here hx rfl (hb hby d10_40) rfl rfl kk) ?_
    obtain ⟨T8, X8, e8, st8⟩ := getF X7 hx hZ hown (host := "") (Or.inl (hw _ (List.mem_of_getElem? (i := 30) rfl))) Via.refl e7 Fvb (g := (mkF m 41 #[.val (.ref a), .val (.ref bb), .val (.ref bb)] [(.ref bb), (.ref t)])) rfl rfl (hb hby d10_41)
    refine go_of (B := (T8.setTop (mkF m 44 #[.val (.ref a), .val (.ref bb), .val (.ref bb)] [(.ref tt), (.ref t)]))) (st8) ?_
    obtain ⟨_, _, ⟨T9, L9, k9, n9⟩, -, X9, ⟨Lc9, hQ9, l9, y9, z9⟩, st9⟩ := Jvm.LawKit.callS X8 hx (y := (⟨"java/lang/StringLatin1", "equals", "([B[B)Z"⟩ : MethodName)) hown (mvT hZ (hw _ (List.mem_of_getElem? (i := 67) rfl))) (mvT hZ (hw _ (List.mem_of_getElem? (i := 68) rfl))) (mvT hZ (hw _ (List.mem_of_getElem? (i := 69) rfl))) (mvT hZ (hw _ (List.mem_of_getElem? (i := 70) rfl))) (by decide) (backOf (W := 0) (str_lat_2_0 l Z a0 hw [] t tt (own_b8 c0) (own_b8 c1) k kk h0 n0 Z0 Va Vb) hZ (hw _ (List.mem_of_getElem? (i := 70) rfl)) (hw _ (List.mem_of_getElem? (i := 69) rfl)) (by decide) (by decide)) (g := (mkF m 44 #[.val (.ref a), .val (.ref bb), .val (.ref bb)] [(.ref tt), (.ref t)])) rfl (by rw [hml]; rfl) (argsL := [(.ref t), (.ref tt)]) (rest := []) (lenOf pd___B_B_Z rfl) rfl (by show 2 * 0 + _ ≤ _; exact Nat.le_of_eq rfl) (hb hby d10_44) (fun _ _ => ⟨rfl, e8, (by decide : 0 + 0 ≤ _), (by decide : 0 + 0 ≤ _)⟩)
    dsimp only [Pt.U, Pt.locs, Pt.cells, Pt.slots] at X9 l9 y9 z9 st9 hQ9
    subst l9 y9 z9
    obtain ⟨rfl, N9q, e9⟩ := hQ9
    have N9 := Fr.app N0 N9q
    refine go_of (B := (T9.setTop (mkF m 47 #[.val (.ref a), .val (.ref bb), .val (.ref bb)] [(.int (own_eqv [(own_b8 c0), (own_b8 c1)] []))]))) (st9) ?_
    by_cases hc10 : (own_eqv [(own_b8 c0), (own_b8 c1)] []) = (0 : Int32)
    · refine go_of (B := (T9.setTop (mkF m 54 #[.val (.ref a), .val (.ref bb), .val (.ref bb)] []))) (fun _ kk => XS.ifYes X9.here hx rfl (pc0 := 47) (pc' := 54) rfl (hb hby d10_47) rfl ((if0 _ _).trans (teq hc10).1) (by decide) (by decide) kk) ?_
      refine go_of (B := (T9.setTop (mkF m 55 #[.val (.ref a), .val (.ref bb), .val (.ref bb)] [(.int (0 : Int32))]))) (fun _ kk => XS.iconst X9.here hx rfl (hb hby d10_54) kk) ?_
      refine go_end X9 (v := some (.int (nar .boolean (0 : Int32)))) (fun h => by rw [Bd.returns] at h; cases h) Bd.notSynchronized (by decide) (by decide) (Q := (Q_str_eq_2_0 Z a bb c0 c1 gC h0 n0)) ?_ (fun fs hr => retN X9 hx (t := .boolean) Bd.returns (by simp) (hb hby d10_55) hr)
      show (fun (v : Option Value) (h : Heap) (L : List Loc) => v = some (.int (own_eqv [c0, c1] [])) ∧ Fr n0 L ∧ h = h0) (some (.int (nar .boolean (0 : Int32)))) T9.heap _
      rw [e9]
      refine ⟨?_, N9, rfl⟩
      have hq := hc10
      rw [own_eqv0, show ([own_b8 c0, own_b8 c1] = []) = (List.map own_b8 [c0, c1] = List.map own_b8 []) from rfl, own_eqmap [c0, c1] [] hcs hds] at hq
      unfold own_eqv; simp only [hq, not_false_eq_true, if_true, if_false, nar, ↓reduceIte]; first | rfl | simp_all [nar]
    · refine go_of (B := (T9.setTop (mkF m 50 #[.val (.ref a), .val (.ref bb), .val (.ref bb)] []))) (fun _ kk => XS.ifNo X9.here hx rfl (hb hby d10_47) rfl ((if0 _ _).trans (feq hc10).1) kk) ?_
      refine go_of (B := (T9.setTop (mkF m 51 #[.val (.ref a), .val (.ref bb), .val (.ref bb)] [(.int (1 : Int32))]))) (fun _ kk => XS.iconst X9.here hx rfl (hb hby d10_50) kk) ?_
      refine go_of (B := (T9.setTop (mkF m 55 #[.val (.ref a), .val (.ref bb), .val (.ref bb)] [(.int (1 : Int32))]))) (fun _ kk => XS.goto X9.here hx rfl (pc0 := 51) (pc' := 55) rfl (hb hby d10_51) (by decide) (by decide) kk) ?_
      refine go_end X9 (v := some (.int (nar .boolean (1 : Int32)))) (fun h => by rw [Bd.returns] at h; cases h) Bd.notSynchronized (by decide) (by decide) (Q := (Q_str_eq_2_0 Z a bb c0 c1 gC h0 n0)) ?_ (fun fs hr => retN X9 hx (t := .boolean) Bd.returns (by simp) (hb hby d10_55) hr)
      show (fun (v : Option Value) (h : Heap) (L : List Loc) => v = some (.int (own_eqv [c0, c1] [])) ∧ Fr n0 L ∧ h = h0) (some (.int (nar .boolean (1 : Int32)))) T9.heap _
      rw [e9]
      refine ⟨?_, N9, rfl⟩
      have hq := hc10
      rw [own_eqv0, show ([own_b8 c0, own_b8 c1] = []) = (List.map own_b8 [c0, c1] = List.map own_b8 []) from rfl, own_eqmap [c0, c1] [] hcs hds] at hq
      unfold own_eqv; simp only [hq, not_false_eq_true, if_true, if_false, nar, ↓reduceIte]; first | rfl | simp_all [nar]
def Q_str_eq_2_1 (Z : State) (a : Addr) (bb : Addr) (c0 : Int32) (c1 : Int32) (d0 : Int32) (gC : Int32) (h0 : Heap) (n0 : Nat) (v : Option Value) (h : Heap) (L : List Loc) : Prop := v = some (.int (own_eqv [c0, c1] [d0])) ∧ Fr n0 L ∧ h = h0
theorem ef_str_eq_2_1 (m : MethodId) (a : Addr) (bb : Addr)  : entryFrame m #[(.ref a), (.ref bb)] 3 = mkF m 0 #[.val (.ref a), .val (.ref bb), .unset] [] := by first | (simp [entryFrame, mkF, argsToLocals, Value.category]; done) | rfl
set_option maxRecDepth 65536 in
set_option maxHeartbeats 40000000 in
theorem str_eq_2_1 (l : Launch) (Z : State) (a0 : Array Value) (hw : ∀ d ∈ tables_1, d.before a0 Z = true) (ws : List Jvm.Cond) (a : Addr) (bb : Addr) (c0 : Int32) (c1 : Int32) (d0 : Int32) (gC : Int32) (h0 : Heap) (n0 : Nat) (Z0 : n0 ≤ h0.size) (O : Old Z n0 h0) (SC : Sta Z Z.heap "java/lang/String" "COMPACT_STRINGS" "Z" (.int gC)) (hgC : ¬ gC = (0 : Int32)) (S1 : Str Z h0 a 2 [c0, c1]) (S2 : Str Z h0 bb 1 [d0]) (hab : a = bb → ([c0, c1] : List Int32) = [d0]) :
    MetFree l (⟨"java/lang/String", "equals", "(Ljava/lang/Object;)Z"⟩ : MethodName) (head1 (Jvm.Cond.code (⟨"java/lang/String", "equals", "(Ljava/lang/Object;)Z"⟩ : MethodName) jdk_42_method_66_code 3 (some .boolean) :: ws) ({ frames := 1, cells := 0, slots := 0, locals := 14 } : Room)) (fun aa' U1' => aa' = #[(.ref a), (.ref bb)] ∧ Z.Warmed39 U1'.vm ∧ U1'.heap = h0) (fun _ _ _ _ _ => True) (fun _ U1' oo' U2' => ∃ vv' LL', oo' = .returned vv' ∧ (Q_str_eq_2_1 Z a bb c0 c1 d0 gC h0 n0) vv' U2'.heap LL' ∧ FrameEnd U1' oo' U2' LL' ({ frames := 1, cells := 0, slots := 0, locals := 14 } : Room).cells ({ frames := 1, cells := 0, slots := 0, locals := 14 } : Room).slots) := by
  refine MetFree.of_bodySF (plainFor_of_name pn_java_lang_String) hisR ?_
  intro p e s m args below meth c s₁ Bd hml0 hP hK
  obtain ⟨rfl, hZ, hh⟩ := hP
  have hx := Bd.exec
  have hby := Bd.bytes
  have hml : c.maxLocals = 3 := hml0
  have hown : s.vm.findClass "java/lang/String" = some m.cls := findClass_of_methodNamed Bd.named
  have hnm := (name_of_methodNamed Bd.named Bd.method).1
  have X0 : Stand p l e ({ frames := 1, cells := 0, slots := 0, locals := 14 } : Room) s m #[(.ref a), (.ref bb)] below meth c s₁ [] 0 0 := Stand.of_body Bd
  have e0 : s₁.heap = h0 := by rw [← hh, Bd.state]; rfl
  have N0 := Fr.nil n0
  obtain ⟨t, k, Ea, Fc, Fv, Va, hcs⟩ := S1
  obtain ⟨tt, kk, Eb, Fcb, Fvb, Vb, hds⟩ := S2
  refine go_of (A := s₁.setTop (entryFrame m #[(.ref a), (.ref bb)] 3)) (B := s₁.setTop (mkF m 0 #[.val (.ref a), .val (.ref bb), .unset] [])) (fun _ kk' => castTop (ef_str_eq_2_1 m a bb) kk') ?_
  refine go_of (B := (s₁.setTop (mkF m 1 #[.val (.ref a), .val (.ref bb), .unset] [(.ref a)]))) (fun _ kk => XS.aloadN X0.here hx rfl (hb hby d10_0) rfl rfl kk) ?_
  refine go_of (B := (s₁.setTop (mkF m 2 #[.val (.ref a), .val (.ref bb), .unset] [(.ref bb), (.ref a)]))) (fun _ kk => XS.aloadN X0.here hx rfl (hb hby d10_1) rfl rfl kk) ?_
  by_cases ha1 : a = bb
  · refine go_of (B := (s₁.setTop (mkF m 5 #[.val (.ref a), .val (.ref bb), .unset] []))) (fun _ kk => Jvm.RoadKit.acmp (g := (mkF m 2 #[.val (.ref a), .val (.ref bb), .unset] [(.ref bb), (.ref a)])) X0 hx rfl rfl rfl (pc0 := 2) (pc' := 5) (same := true) rfl (hb hby d10_2) rfl (decide_eq_true (congrArg Value.ref ha1)) (by decide) (by decide) kk) ?_
    refine go_of (B := (s₁.setTop (mkF m 6 #[.val (.ref a), .val (.ref bb), .unset] [(.int (1 : Int32))]))) (fun _ kk => XS.iconst X0.here hx rfl (hb hby d10_5) kk) ?_
    refine go_end X0 (v := some (.int (nar .boolean (1 : Int32)))) (fun h => by rw [Bd.returns] at h; cases h) Bd.notSynchronized (by decide) (by decide) (Q := (Q_str_eq_2_1 Z a bb c0 c1 d0 gC h0 n0)) ?_ (fun fs hr => retN X0 hx (t := .boolean) Bd.returns (by simp) (hb hby d10_6) hr)
    show (fun (v : Option Value) (h : Heap) (L : List Loc) => v = some (.int (own_eqv [c0, c1] [d0])) ∧ Fr n0 L ∧ h = h0) (some (.int (nar .boolean (1 : Int32)))) s₁.heap _
    rw [e0]
    refine ⟨?_, N0, rfl⟩
    have hq := hab ha1
    simp only [own_eqv, if_pos hq]; rfl
  · refine go_of (B := (s₁.setTop (mkF m 7 #[.val (.ref a), .val (.ref bb), .unset] []))) (fun _ kk => Jvm.RoadKit.acmp (g := (mkF m 2 #[.val (.ref a), .val (.ref bb), .unset] [(.ref bb), (.ref a)])) X0 hx rfl rfl rfl (pc0 := 2) (pc' := 7) (same := false) rfl (hb hby d10_2) rfl (decide_eq_false fun q => ha1 (Value.ref.inj q)) (by decide) (by decide) kk) ?_
    refine go_of (B := (s₁.setTop (mkF m 8 #[.val (.ref a), .val (.ref bb), .unset] [(.ref bb)]))) (fun _ kk => XS.aloadN X0.here hx rfl (hb hby d10_7) rfl rfl kk) ?_
    obtain ⟨T2, X2, e2, st2⟩ := instY X0 hx hZ hown (hw _ (List.mem_of_getElem? (i := 65) rfl)) e0 (Ins.self Eb) (g := (mkF m 8 #[.val (.ref a), .val (.ref bb), .unset] [(.ref bb)])) rfl rfl (hb hby d10_8)
    refine go_of (B := (T2.setTop (mkF m 11 #[.val (.ref a), .val (.ref bb), .unset] [(.int (1 : Int32))]))) (st2) ?_
    refine go_of (B := (T2.setTop (mkF m 14 #[.val (.ref a), .val (.ref bb), .unset] []))) (fun _ kk => XS.ifNo X2.here hx rfl (hb hby d10_11) rfl ((if0 _ _).trans (feq (by decide : ¬ ((1 : Int32) = (0 : Int32)))).1) kk) ?_
    refine go_of (B := (T2.setTop (mkF m 15 #[.val (.ref a), .val (.ref bb), .unset] [(.ref bb)]))) (fun _ kk => XS.aloadN X2.here hx rfl (hb hby d10_14) rfl rfl kk) ?_
    obtain ⟨T3, X3, e3, st3⟩ := castY X2 hx hZ hown (hw _ (List.mem_of_getElem? (i := 65) rfl)) e2 (Ins.self Eb) (g := (mkF m 15 #[.val (.ref a), .val (.ref bb), .unset] [(.ref bb)])) rfl rfl (hb hby d10_15)
    refine go_of (B := (T3.setTop (mkF m 18 #[.val (.ref a), .val (.ref bb), .unset] [(.ref bb)]))) (st3) ?_
    refine go_of (B := (T3.setTop (mkF m 19 #[.val (.ref a), .val (.ref bb), .val (.ref bb)] []))) (fun _ kk => XS.astoreN X3.here hx rfl (hb hby d10_18) rfl rfl rfl kk) ?_
    obtain ⟨T4, X4, e4, st4⟩ := getS2 X3 hx hZ hown (host := "") (Or.inl (hw _ (List.mem_of_getElem? (i := 66) rfl))) Via.refl e3 (SC.ext O.2) (g := (mkF m 19 #[.val (.ref a), .val (.ref bb), .val (.ref bb)] [])) rfl (hb hby d10_19)
    refine go_of (B := (T4.setTop (mkF m 22 #[.val (.ref a), .val (.ref bb), .val (.ref bb)] [(.int gC)]))) (st4) ?_
    refine go_of (B := (T4.setTop (mkF m 25 #[.val (.ref a), .val (.ref bb), .val (.ref bb)] []))) (fun _ kk => XS.ifNo X4.here hx rfl (hb hby d10_22) rfl ((if0 _ _).trans (feq hgC).1) kk) ?_
    refine go_of (B := (T4.setTop (mkF m 26 #[.val (.ref a), .val (.ref bb), .val (.ref bb)] [(.ref a)]))) (fun _ kk => XS.aloadN X4.here hx rfl (hb hby d10_25) rfl rfl kk) ?_
    obtain ⟨T5, X5, e5, st5⟩ := getF X4 hx hZ hown (host := "") (Or.inl (hw _ (List.mem_of_getElem? (i := 31) rfl))) Via.refl e4 Fc (g := (mkF m 26 #[.val (.ref a), .val (.ref bb), .val (.ref bb)] [(.ref a)])) rfl rfl (hb hby d10_26)
    refine go_of (B := (T5.setTop (mkF m 29 #[.val (.ref a), .val (.ref bb), .val (.ref bb)] [(.int (0 : Int32))]))) (st5) ?_
    refine go_of (B := (T5.setTop (mkF m 30 #[.val (.ref a), .val (.ref bb), .val (.ref bb)] [(.ref bb), (.int (0 : Int32))]))) (fun _ kk => XS.aloadN X5.here hx rfl (hb hby d10_29) rfl rfl kk) ?_
    obtain ⟨T6, X6, e6, st6⟩ := getF X5 hx hZ hown (host := "") (Or.inl (hw _ (List.mem_of_getElem? (i := 31) rfl))) Via.refl e5 Fcb (g := (mkF m 30 #[.val (.ref a), .val (.ref bb), .val (.ref bb)] [(.ref bb), (.int (0 : Int32))])) rfl rfl (hb hby d10_30)
    refine go_of (B := (T6.setTop (mkF m 33 #[.val (.ref a), .val (.ref bb), .val (.ref bb)] [(.int (0 : Int32)), (.int (0 : Int32))]))) (st6) ?_
    refine go_of (B := (T6.setTop (mkF m 36 #[.val (.ref a), .val (.ref bb), .val (.ref bb)] []))) (fun _ kk => XS.icmpNo X6.here hx rfl (hb hby d10_33) rfl (teq (by decide : (0 : Int32) = (0 : Int32))).2 kk) ?_
    refine go_of (B := (T6.setTop (mkF m 37 #[.val (.ref a), .val (.ref bb), .val (.ref bb)] [(.ref a)]))) (fun _ kk => XS.aloadN X6.here hx rfl (hb hby d10_36) rfl rfl kk) ?_
    obtain ⟨T7, X7, e7, st7⟩ := getF X6 hx hZ hown (host := "") (Or.inl (hw _ (List.mem_of_getElem? (i := 30) rfl))) Via.refl e6 Fv (g := (mkF m 37 #[.val (.ref a), .val (.ref bb), .val (.ref bb)] [(.ref a)])) rfl rfl (hb hby d10_37)
    refine go_of (B := (T7.setTop (mkF m 40 #[.val (.ref a), .val (.ref bb), .val (.ref bb)] [(.ref t)]))) (st7) ?_
    refine go_of (B := (T7.setTop (mkF m 41 #[.val (.ref a), .val (.ref bb), .val (.ref bb)] [(.ref bb), (.ref t)]))) (fun _ kk => XS.aloadN X7.here hx rfl (hb hby d10_40) rfl rfl kk) ?_
    obtain ⟨T8, X8, e8, st8⟩ := getF X7 hx hZ hown (host := "") (Or.inl (hw _ (List.mem_of_getElem? (i := 30) rfl))) Via.refl e7 Fvb (g := (mkF m 41 #[.val (.ref a), .val (.ref bb), .val (.ref bb)] [(.ref bb), (.ref t)])) rfl rfl (hb hby d10_41)
    refine go_of (B := (T8.setTop (mkF m 44 #[.val (.ref a), .val (.ref bb), .val (.ref bb)] [(.ref tt), (.ref t)]))) (st8) ?_
    obtain ⟨_, _, ⟨T9, L9, k9, n9⟩, -, X9, ⟨Lc9, hQ9, l9, y9, z9⟩, st9⟩ := Jvm.LawKit.callS X8 hx (y := (⟨"java/lang/StringLatin1", "equals", "([B[B)Z"⟩ : MethodName)) hown (mvT hZ (hw _ (List.mem_of_getElem? (i := 67) rfl))) (mvT hZ (hw _ (List.mem_of_getElem? (i := 68) rfl))) (mvT hZ (hw _ (List.mem_of_getElem? (i := 69) rfl))) (mvT hZ (hw _ (List.mem_of_getElem? (i := 70) rfl))) (by decide) (backOf (W := 0) (str_lat_2_1 l Z a0 hw [] t tt (own_b8 c0) (own_b8 c1) (own_b8 d0) k kk h0 n0 Z0 Va Vb) hZ (hw _ (List.mem_of_getElem? (i := 70) rfl)) (hw _ (List.mem_of_getElem? (i := 69) rfl)) (by decide) (by decide)) (g := (mkF m 44 #[.val (.ref a), .val (.ref bb), .val (.ref bb)] [(.ref tt), (.ref t)])) rfl (by rw [hml]; rfl) (argsL := [(.ref t), (.ref tt)]) (rest := []) (lenOf pd___B_B_Z rfl) rfl (by show 2 * 0 + _ ≤ _; exact Nat.le_of_eq rfl) (hb hby d10_44) (fun _ _ => ⟨rfl, e8, (by decide : 0 + 0 ≤ _), (by decide : 0 + 0 ≤ _)⟩)
    dsimp only [Pt.U, Pt.locs, Pt.cells, Pt.slots] at X9 l9 y9 z9 st9 hQ9
    subst l9 y9 z9
    obtain ⟨rfl, N9q, e9⟩ := hQ9
    have N9 := Fr.app N0 N9q
    refine go_of (B := (T9.setTop (mkF m 47 #[.val (.ref a), .val (.ref bb), .val (.ref bb)] [(.int (own_eqv [(own_b8 c0), (own_b8 c1)] [(own_b8 d0)]))]))) (st9) ?_
    by_cases hc10 : (own_eqv [(own_b8 c0), (own_b8 c1)] [(own_b8 d0)]) = (0 : Int32)
    · refine go_of (B := (T9.setTop (mkF m 54 #[.val (.ref a), .val (.ref bb), .val (.ref bb)] []))) (fun _ kk => XS.ifYes X9.here hx rfl (pc0 := 47) (pc' := 54) rfl (hb hby d10_47) rfl ((if0 _ _).trans (teq hc10).1) (by decide) (by decide) kk) ?_
      refine go_of (B := (T9.setTop (mkF m 55 #[.val (.ref a), .val (.ref bb), .val (.ref bb)] [(.int (0 : Int32))]))) (fun _ kk => XS.iconst X9.here hx rfl (hb hby d10_54) kk) ?_
      refine go_end X9 (v := some (.int (nar .boolean (0 : Int32)))) (fun h => by rw [Bd.returns] at h; cases h) Bd.notSynchronized (by decide) (by decide) (Q := (Q_str_eq_2_1 Z a bb c0 c1 d0 gC h0 n0)) ?_ (fun fs hr => retN X9 hx (t := .boolean) Bd.returns (by simp) (hb hby d10_55) hr)
      show (fun (v : Option Value) (h : Heap) (L : List Loc) => v = some (.int (own_eqv [c0, c1] [d0])) ∧ Fr n0 L ∧ h = h0) (some (.int (nar .boolean (0 : Int32)))) T9.heap _
      rw [e9]
      refine ⟨?_, N9, rfl⟩
      have hq := hc10
      rw [own_eqv0, show ([own_b8 c0, own_b8 c1] = [own_b8 d0]) = (List.map own_b8 [c0, c1] = List.map own_b8 [d0]) from rfl, own_eqmap [c0, c1] [d0] hcs hds] at hq
      unfold own_eqv; simp only [hq, not_false_eq_true, if_true, if_false, nar, ↓reduceIte]; first | rfl | simp_all [nar]
    · refine go_of (B := (T9.setTop (mkF m 50 #[.val (.ref a), .val (.ref bb), .val (.ref bb)] []))) (fun _ kk => XS.ifNo X9.here hx rfl (hb hby d10_47) rfl ((if0 _ _).trans (feq hc10).1) kk) ?_
      refine go_of (B := (T9.setTop (mkF m 51 #[.val (.ref a), .val (.ref bb), .val (.ref bb)] [(.int (1 : Int32))]))) (fun _ kk => XS.iconst X9.here hx rfl (hb hby d10_50) kk) ?_
      refine go_of (B := (T9.setTop (mkF m 55 #[.val (.ref a), .val (.ref bb), .val (.ref bb)] [(.int (1 : Int32))]))) (fun _ kk => XS.goto X9.here hx rfl (pc0 := 51) (pc' := 55) rfl (hb hby d10_51) (by decide) (by decide) kk) ?_
      refine go_end X9 (v := some (.int (nar .boolean (1 : Int32)))) (fun h => by rw [Bd.returns] at h; cases h) Bd.notSynchronized (by decide) (by decide) (Q := (Q_str_eq_2_1 Z a bb c0 c1 d0 gC h0 n0)) ?_ (fun fs hr => retN X9 hx (t := .boolean) Bd.returns (by simp) (hb hby d10_55) hr)
      show (fun (v : Option Value) (h : Heap) (L : List Loc) => v = some (.int (own_eqv [c0, c1] [d0])) ∧ Fr n0 L ∧ h = h0) (some (.int (nar .boolean (1 : Int32)))) T9.heap _
      rw [e9]
      refine ⟨?_, N9, rfl⟩
      have hq := hc10
      rw [own_eqv0, show ([own_b8 c0, own_b8 c1] = [own_b8 d0]) = (List.map own_b8 [c0, c1] = List.map own_b8 [d0]) from rfl, own_eqmap [c0, c1] [d0] hcs hds] at hq
      unfold own_eqv; simp only [hq, not_false_eq_true, if_true, if_false, nar, ↓reduceIte]; first | rfl | simp_all [nar]
def Q_str_eq_2_2 (Z : State) (a : Addr) (bb : Addr) (c0 : Int32) (c1 : Int32) (d0 : Int32) (d1 : Int32) (gC : Int32) (h0 : Heap) (n0 : Nat) (v : Option Value) (h : Heap) (L : List Loc) : Prop := v = some (.int (own_eqv [c0, c1] [d0, d1])) ∧ Fr n0 L ∧ h = h0
theorem ef_str_eq_2_2 (m : MethodId) (a : Addr) (bb : Addr)  : entryFrame m #[(.ref a), (.ref bb)] 3 = mkF m 0 #[.val (.ref a), .val (.ref bb), .unset] [] := by first | (simp [entryFrame, mkF, argsToLocals, Value.category]; done) | rfl
set_option maxRecDepth 65536 in
set_option maxHeartbeats 40000000 in
theorem str_eq_2_2 (l : Launch) (Z : State) (a0 : Array Value) (hw : ∀ d ∈ tables_1, d.before a0 Z = true) (ws : List Jvm.Cond) (a : Addr) (bb : Addr) (c0 : Int32) (c1 : Int32) (d0 : Int32) (d1 : Int32) (gC : Int32) (h0 : Heap) (n0 : Nat) (Z0 : n0 ≤ h0.size) (O : Old Z n0 h0) (SC : Sta Z Z.heap "java/lang/String" "COMPACT_STRINGS" "Z" (.int gC)) (hgC : ¬ gC = (0 : Int32)) (S1 : Str Z h0 a 2 [c0, c1]) (S2 : Str Z h0 bb 2 [d0, d1]) (hab : a = bb → ([c0, c1] : List Int32) = [d0, d1]) :
    MetFree l (⟨"java/lang/String", "equals", "(Ljava/lang/Object;)Z"⟩ : MethodName) (head1 (Jvm.Cond.code (⟨"java/lang/String", "equals", "(Ljava/lang/Object;)Z"⟩ : MethodName) jdk_42_method_66_code 3 (some .boolean) :: ws) ({ frames := 1, cells := 0, slots := 0, locals := 14 } : Room)) (fun aa' U1' => aa' = #[(.ref a), (.ref bb)] ∧ Z.Warmed39 U1'.vm ∧ U1'.heap = h0) (fun _ _ _ _ _ => True) (fun _ U1' oo' U2' => ∃ vv' LL', oo' = .returned vv' ∧ (Q_str_eq_2_2 Z a bb c0 c1 d0 d1 gC h0 n0) vv' U2'.heap LL' ∧ FrameEnd U1' oo' U2' LL' ({ frames := 1, cells := 0, slots := 0, locals := 14 } : Room).cells ({ frames := 1, cells := 0, slots := 0, locals := 14 } : Room).slots) := by
  refine MetFree.of_bodySF (plainFor_of_name pn_java_lang_String) hisR ?_
  intro p e s m args below meth c s₁ Bd hml0 hP hK
  obtain ⟨rfl, hZ, hh⟩ := hP
  have hx := Bd.exec
  have hby := Bd.bytes
  have hml : c.maxLocals = 3 := hml0
  have hown : s.vm.findClass "java/lang/String" = some m.cls := findClass_of_methodNamed Bd.named
  have hnm := (name_of_methodNamed Bd.named Bd.method).1
  have X0 : Stand p l e ({ frames := 1, cells := 0, slots := 0, locals := 14 } : Room) s m #[(.ref a), (.ref bb)] below meth c s₁ [] 0 0 := Stand.of_body Bd
  have e0 : s₁.heap = h0 := by rw [← hh, Bd.state]; rfl
  have N0 := Fr.nil n0
  obtain ⟨t, k, Ea, Fc, Fv, Va, hcs⟩ := S1
  obtain ⟨tt, kk, Eb, Fcb, Fvb, Vb, hds⟩ := S2
  refine go_of (A := s₁.setTop (entryFrame m #[(.ref a), (.ref bb)] 3)) (B := s₁.setTop (mkF m 0 #[.val (.ref a), .val (.ref bb), .unset] [])) (fun _ kk' => castTop (ef_str_eq_2_2 m a bb) kk') ?_
  refine go_of (B := (s₁.setTop (mkF m 1 #[.val (.ref a), .val (.ref bb), .unset] [(.ref a)]))) (fun _ kk => XS.aloadN X0.here hx rfl (hb hby d10_0) rfl rfl kk) ?_
  refine go_of (B := (s₁.setTop (mkF m 2 #[.val (.ref a), .val (.ref bb), .unset] [(.ref bb), (.ref a)]))) (fun _ kk => XS.aloadN X0.here hx rfl (hb hby d10_1) rfl rfl kk) ?_
  by_cases ha1 : a = bb
  · refine go_of (B := (s₁.setTop (mkF m 5 #[.val (.ref a), .val (.ref bb), .unset] []))) (fun _ kk => Jvm.RoadKit.acmp (g := (mkF m 2 #[.val (.ref a), .val (.ref bb), .unset] [(.ref bb), (.ref a)])) X0 hx rfl rfl rfl (pc0 := 2) (pc' := 5) (same := true) rfl (hb hby d10_2) rfl (decide_eq_true (congrArg Value.ref ha1)) (by decide) (by decide) kk) ?_
    refine go_of (B := (s₁.setTop (mkF m 6 #[.val (.ref a), .val (.ref bb), .unset] [(.int (1 : Int32))]))) (fun _ kk => XS.iconst X0.here hx rfl (hb hby d10_5) kk) ?_
    refine go_end X0 (v := some (.int (nar .boolean (1 : Int32)))) (fun h => by rw [Bd.returns] at h; cases h) Bd.notSynchronized (by decide) (by decide) (Q := (Q_str_eq_2_2 Z a bb c0 c1 d0 d1 gC h0 n0)) ?_ (fun fs hr => retN X0 hx (t := .boolean) Bd.returns (by simp) (hb hby d10_6) hr)
    show (fun (v : Option Value) (h : Heap) (L : List Loc) => v = some (.int (own_eqv [c0, c1] [d0, d1])) ∧ Fr n0 L ∧ h = h0) (some (.int (nar .boolean (1 : Int32)))) s₁.heap _
    rw [e0]
    refine ⟨?_, N0, rfl⟩
    have hq := hab ha1
    simp only [own_eqv, if_pos hq]; rfl
  · refine go_of (B := (s₁.setTop (mkF m 7 #[.val (.ref a), .val (.ref bb), .unset] []))) (fun _ kk => Jvm.RoadKit.acmp (g := (mkF m 2 #[.val (.ref a), .val (.ref bb), .unset] [(.ref bb), (.ref a)])) X0 hx rfl rfl rfl (pc0 := 2) (pc' := 7) (same := false) rfl (hb hby d10_2) rfl (decide_eq_false fun q => ha1 (Value.ref.inj q)) (by decide) (by decide) kk) ?_
    refine go_of (B := (s₁.setTop (mkF m 8 #[.val (.ref a), .val (.ref bb), .unset] [(.ref bb)]))) (fun _ kk => XS.aloadN X0.here hx rfl (hb hby d10_7) rfl rfl kk) ?_
    obtain ⟨T2, X2, e2, st2⟩ := instY X0 hx hZ hown (hw _ (List.mem_of_getElem? (i := 65) rfl)) e0 (Ins.self Eb) (g := (mkF m 8 #[.val (.ref a), .val (.ref bb), .unset] [(.ref bb)])) rfl rfl (hb hby d10_8)
    refine go_of (B := (T2.setTop (mkF m 11 #[.val (.ref a), .val (.ref bb), .unset] [(.int (1 : Int32))]))) (st2) ?_
    refine go_of (B := (T2.setTop (mkF m 14 #[.val (.ref a), .val (.ref bb), .unset] []))) (fun _ kk => XS.ifNo X2.here hx rfl (hb hby d10_11) rfl ((if0 _ _).trans (feq (by decide : ¬ ((1 : Int32) = (0 : Int32)))).1) kk) ?_
    refine go_of (B := (T2.setTop (mkF m 15 #[.val (.ref a), .val (.ref bb), .unset] [(.ref bb)]))) (fun _ kk => XS.aloadN X2.here hx rfl (hb hby d10_14) rfl rfl kk) ?_
    obtain ⟨T3, X3, e3, st3⟩ := castY X2 hx hZ hown (hw _ (List.mem_of_getElem? (i := 65) rfl)) e2 (Ins.self Eb) (g := (mkF m 15 #[.val (.ref a), .val (.ref bb), .unset] [(.ref bb)])) rfl rfl (hb hby d10_15)
    refine go_of (B := (T3.setTop (mkF m 18 #[.val (.ref a), .val (.ref bb), .unset] [(.ref bb)]))) (st3) ?_
    refine go_of (B := (T3.setTop (mkF m 19 #[.val (.ref a), .val (.ref bb), .val (.ref bb)] []))) (fun _ kk => XS.astoreN X3.here hx rfl (hb hby d10_18) rfl rfl rfl kk) ?_
    obtain ⟨T4, X4, e4, st4⟩ := getS2 X3 hx hZ hown (host := "") (Or.inl (hw _ (List.mem_of_getElem? (i := 66) rfl))) Via.refl e3 (SC.ext O.2) (g := (mkF m 19 #[.val (.ref a), .val (.ref bb), .val (.ref bb)] [])) rfl (hb hby d10_19)
    refine go_of (B := (T4.setTop (mkF m 22 #[.val (.ref a), .val (.ref bb), .val (.ref bb)] [(.int gC)]))) (st4) ?_
    refine go_of (B := (T4.setTop (mkF m 25 #[.val (.ref a), .val (.ref bb), .val (.ref bb)] []))) (fun _ kk => XS.ifNo X4.here hx rfl (hb hby d10_22) rfl ((if0 _ _).trans (feq hgC).1) kk) ?_
    refine go_of (B := (T4.setTop (mkF m 26 #[.val (.ref a), .val (.ref bb), .val (.ref bb)] [(.ref a)]))) (fun _ kk => XS.aloadN X4.here hx rfl (hb hby d10_25) rfl rfl kk) ?_
    obtain ⟨T5, X5, e5, st5⟩ := getF X4 hx hZ hown (host := "") (Or.inl (hw _ (List.mem_of_getElem? (i := 31) rfl))) Via.refl e4 Fc (g := (mkF m 26 #[.val (.ref a), .val (.ref bb), .val (.ref bb)] [(.ref a)])) rfl rfl (hb hby d10_26)
    refine go_of (B := (T5.setTop (mkF m 29 #[.val (.ref a), .val (.ref bb), .val (.ref bb)] [(.int (0 : Int32))]))) (st5) ?_
    refine go_of (B := (T5.setTop (mkF m 30 #[.val (.ref a), .val (.ref bb), .val (.ref bb)] [(.ref bb), (.int (0 : Int32))]))) (fun _ kk => XS.aloadN X5.here hx rfl (hb hby d10_29) rfl rfl kk) ?_
    obtain ⟨T6, X6, e6, st6⟩ := getF X5 hx hZ hown (host := "") (Or.inl (hw _ (List.mem_of_getElem? (i := 31) rfl))) Via.refl e5 Fcb (g := (mkF m 30 #[.val (.ref a), .val (.ref bb), .val (.ref bb)] [(.ref bb), (.int (0 : Int32))])) rfl rfl (hb hby d10_30)
    refine go_of (B := (T6.setTop (mkF m 33 #[.val (.ref a), .val (.ref bb), .val (.ref bb)] [(.int (0 : Int32)), (.int (0 : Int32))]))) (st6) ?_
    refine go_of (B := (T6.setTop (mkF m 36 #[.val (.ref a), .val (.ref bb), .val (.ref bb)] []))) (fun _ kk => XS.icmpNo X6.here hx rfl (hb hby d10_33) rfl (teq (by decide : (0 : Int32) = (0 : Int32))).2 kk) ?_
    refine go_of (B := (T6.setTop (mkF m 37 #[.val (.ref a), .val (.ref bb), .val (.ref bb)] [(.ref a)]))) (fun _ kk => XS.aloadN X6.here hx rfl (hb hby d10_36) rfl rfl kk) ?_
    obtain ⟨T7, X7, e7, st7⟩ := getF X6 hx hZ hown (host := "") (Or.inl (hw _ (List.mem_of_getElem? (i := 30) rfl))) Via.refl e6 Fv (g := (mkF m 37 #[.val (.ref a), .val (.ref bb), .val (.ref bb)] [(.ref a)])) rfl rfl (hb hby d10_37)
    refine go_of (B := (T7.setTop (mkF m 40 #[.val (.ref a), .val (.ref bb), .val (.ref bb)] [(.ref t)]))) (st7) ?_
    refine go_of (B := (T7.setTop (mkF m 41 #[.val (.ref a), .val (.ref bb), .val (.ref bb)] [(.ref bb), (.ref t)]))) (fun _ kk => XS.aloadN X7.here hx rfl (hb hby d10_40) rfl rfl kk) ?_
    obtain ⟨T8, X8, e8, st8⟩ := getF X7 hx hZ hown (host := "") (Or.inl (hw _ (List.mem_of_getElem? (i := 30) rfl))) Via.refl e7 Fvb (g := (mkF m 41 #[.val (.ref a), .val (.ref bb), .val (.ref bb)] [(.ref bb), (.ref t)])) rfl rfl (hb hby d10_41)
    refine go_of (B := (T8.setTop (mkF m 44 #[.val (.ref a), .val (.ref bb), .val (.ref bb)] [(.ref tt), (.ref t)]))) (st8) ?_
    obtain ⟨_, _, ⟨T9, L9, k9, n9⟩, -, X9, ⟨Lc9, hQ9, l9, y9, z9⟩, st9⟩ := Jvm.LawKit.callS X8 hx (y := (⟨"java/lang/StringLatin1", "equals", "([B[B)Z"⟩ : MethodName)) hown (mvT hZ (hw _ (List.mem_of_getElem? (i := 67) rfl))) (mvT hZ (hw _ (List.mem_of_getElem? (i := 68) rfl))) (mvT hZ (hw _ (List.mem_of_getElem? (i := 69) rfl))) (mvT hZ (hw _ (List.mem_of_getElem? (i := 70) rfl))) (by decide) (backOf (W := 0) (str_lat_2_2 l Z a0 hw [] t tt (own_b8 c0) (own_b8 c1) (own_b8 d0) (own_b8 d1) k kk h0 n0 Z0 Va Vb) hZ (hw _ (List.mem_of_getElem? (i := 70) rfl)) (hw _ (List.mem_of_getElem? (i := 69) rfl)) (by decide) (by decide)) (g := (mkF m 44 #[.val (.ref a), .val (.ref bb), .val (.ref bb)] [(.ref tt), (.ref t)])) rfl (by rw [hml]; rfl) (argsL := [(.ref t), (.ref tt)]) (rest := []) (lenOf pd___B_B_Z rfl) rfl (by show 2 * 0 + _ ≤ _; exact Nat.le_of_eq rfl) (hb hby d10_44) (fun _ _ => ⟨rfl, e8, (by decide : 0 + 0 ≤ _), (by decide : 0 + 0 ≤ _)⟩)
    dsimp only [Pt.U, Pt.locs, Pt.cells, Pt.slots] at X9 l9 y9 z9 st9 hQ9
    subst l9 y9 z9
    obtain ⟨rfl, N9q, e9⟩ := hQ9
    have N9 := Fr.app N0 N9q
    refine go_of (B := (T9.setTop (mkF m 47 #[.val (.ref a), .val (.ref bb), .val (.ref bb)] [(.int (own_eqv [(own_b8 c0), (own_b8 c1)] [(own_b8 d0), (own_b8 d1)]))]))) (st9) ?_
    by_cases hc10 : (own_eqv [(own_b8 c0), (own_b8 c1)] [(own_b8 d0), (own_b8 d1)]) = (0 : Int32)
    · refine go_of (B := (T9.setTop (mkF m 54 #[.val (.ref a), .val (.ref bb), .val (.ref bb)] []))) (fun _ kk => XS.ifYes X9.here hx rfl (pc0 := 47) (pc' := 54) rfl (hb hby d10_47) rfl ((if0 _ _).trans (teq hc10).1) (by decide) (by decide) kk) ?_
      refine go_of (B := (T9.setTop (mkF m 55 #[.val (.ref a), .val (.ref bb), .val (.ref bb)] [(.int (0 : Int32))]))) (fun _ kk => XS.iconst X9.here hx rfl (hb hby d10_54) kk) ?_
      refine go_end X9 (v := some (.int (nar .boolean (0 : Int32)))) (fun h => by rw [Bd.returns] at h; cases h) Bd.notSynchronized (by decide) (by decide) (Q := (Q_str_eq_2_2 Z a bb c0 c1 d0 d1 gC h0 n0)) ?_ (fun fs hr => retN X9 hx (t := .boolean) Bd.returns (by simp) (hb hby d10_55) hr)
      show (fun (v : Option Value) (h : Heap) (L : List Loc) => v = some (.int (own_eqv [c0, c1] [d0, d1])) ∧ Fr n0 L ∧ h = h0) (some (.int (nar .boolean (0 : Int32)))) T9.heap _
      rw [e9]
      refine ⟨?_, N9, rfl⟩
      have hq := hc10
      rw [own_eqv0, show ([own_b8 c0, own_b8 c1] = [own_b8 d0, own_b8 d1]) = (List.map own_b8 [c0, c1] = List.map own_b8 [d0, d1]) from rfl, own_eqmap [c0, c1] [d0, d1] hcs hds] at hq
      unfold own_eqv; simp only [hq, not_false_eq_true, if_true, if_false, nar, ↓reduceIte]; first | rfl | simp_all [nar]
    · refine go_of (B := (T9.setTop (mkF m 50 #[.val (.ref a), .val (.ref bb), .val (.ref bb)] []))) (fun _ kk => XS.ifNo X9.here hx rfl (hb hby d10_47) rfl ((if0 _ _).trans (feq hc10).1) kk) ?_
      refine go_of (B := (T9.setTop (mkF m 51 #[.val (.ref a), .val (.ref bb), .val (.ref bb)] [(.int (1 : Int32))]))) (fun _ kk => XS.iconst X9.here hx rfl (hb hby d10_50) kk) ?_
      refine go_of (B := (T9.setTop (mkF m 55 #[.val (.ref a), .val (.ref bb), .val (.ref bb)] [(.int (1 : Int32))]))) (fun _ kk => XS.goto X9.here hx rfl (pc0 := 51) (pc' := 55) rfl (hb hby d10_51) (by decide) (by decide) kk) ?_
      refine go_end X9 (v := some (.int (nar .boolean (1 : Int32)))) (fun h => by rw [Bd.returns] at h; cases h) Bd.notSynchronized (by decide) (by decide) (Q := (Q_str_eq_2_2 Z a bb c0 c1 d0 d1 gC h0 n0)) ?_ (fun fs hr => retN X9 hx (t := .boolean) Bd.returns (by simp) (hb hby d10_55) hr)
      show (fun (v : Option Value) (h : Heap) (L : List Loc) => v = some (.int (own_eqv [c0, c1] [d0, d1])) ∧ Fr n0 L ∧ h = h0) (some (.int (nar .boolean (1 : Int32)))) T9.heap _
      rw [e9]
      refine ⟨?_, N9, rfl⟩
      have hq := hc10
      rw [own_eqv0, show ([own_b8 c0, own_b8 c1] = [own_b8 d0, own_b8 d1]) = (List.map own_b8 [c0, c1] = List.map own_b8 [d0, d1]) from rfl, own_eqmap [c0, c1] [d0, d1] hcs hds] at hq
      unfold own_eqv; simp only [hq, not_false_eq_true, if_true, if_false, nar, ↓reduceIte]; first | rfl | simp_all [nar]
def Q_str_eq (Z : State) (a bb : Addr) (cs ds : List Int32) (gC : Int32) (h0 : Heap) (n0 : Nat) (v : Option Value) (h : Heap) (L : List Loc) : Prop := v = some (.int (own_eqv cs ds)) ∧ Fr n0 L ∧ h = h0
theorem str_eq (l : Launch) (Z : State) (a0 : Array Value) (hw : ∀ d ∈ tables_1, d.before a0 Z = true) (ws : List Jvm.Cond) (a bb : Addr) (cs ds : List Int32) (gC : Int32) (h0 : Heap) (n0 : Nat) (Z0 : n0 ≤ h0.size) (O : Old Z n0 h0) (SC : Sta Z Z.heap "java/lang/String" "COMPACT_STRINGS" "Z" (.int gC)) (hgC : ¬ gC = (0 : Int32)) (S1 : StrL Z h0 a cs) (S2 : StrL Z h0 bb ds) (hab : a = bb → cs = ds) :
    MetFree l (⟨"java/lang/String", "equals", "(Ljava/lang/Object;)Z"⟩ : MethodName) (head1 (Jvm.Cond.code (⟨"java/lang/String", "equals", "(Ljava/lang/Object;)Z"⟩ : MethodName) jdk_42_method_66_code 3 (some .boolean) :: ws) ({ frames := 1, cells := 0, slots := 0, locals := 14 } : Room)) (fun aa' U1' => aa' = #[(.ref a), (.ref bb)] ∧ Z.Warmed39 U1'.vm ∧ U1'.heap = h0) (fun _ _ _ _ _ => True) (fun _ U1' oo' U2' => ∃ vv' LL', oo' = .returned vv' ∧ (Q_str_eq Z a bb cs ds gC h0 n0) vv' U2'.heap LL' ∧ FrameEnd U1' oo' U2' LL' ({ frames := 1, cells := 0, slots := 0, locals := 14 } : Room).cells ({ frames := 1, cells := 0, slots := 0, locals := 14 } : Room).slots) := by
  match cs, ds, S1, S2, hab with
  | [], [], S1, S2, hab => exact str_eq_0_0 l Z a0 hw ws a bb  gC h0 n0 Z0 O SC hgC S1 S2 hab
  | [], [d0], S1, S2, hab => exact str_eq_0_1 l Z a0 hw ws a bb d0 gC h0 n0 Z0 O SC hgC S1 S2 hab
  | [], [d0, d1], S1, S2, hab => exact str_eq_0_2 l Z a0 hw ws a bb d0 d1 gC h0 n0 Z0 O SC hgC S1 S2 hab
  | [], _ :: _ :: _ :: _, _, S2, _ => exact S2.elim
  | [c0], [], S1, S2, hab => exact str_eq_1_0 l Z a0 hw ws a bb c0 gC h0 n0 Z0 O SC hgC S1 S2 hab
  | [c0], [d0], S1, S2, hab => exact str_eq_1_1 l Z a0 hw ws a bb c0 d0 gC h0 n0 Z0 O SC hgC S1 S2 hab
  | [c0], [d0, d1], S1, S2, hab => exact str_eq_1_2 l Z a0 hw ws a bb c0 d0 d1 gC h0 n0 Z0 O SC hgC S1 S2 hab
  | [c0], _ :: _ :: _ :: _, _, S2, _ => exact S2.elim
  | [c0, c1], [], S1, S2, hab => exact str_eq_2_0 l Z a0 hw ws a bb c0 c1 gC h0 n0 Z0 O SC hgC S1 S2 hab
  | [c0, c1], [d0], S1, S2, hab => exact str_eq_2_1 l Z a0 hw ws a bb c0 c1 d0 gC h0 n0 Z0 O SC hgC S1 S2 hab
  | [c0, c1], [d0, d1], S1, S2, hab => exact str_eq_2_2 l Z a0 hw ws a bb c0 c1 d0 d1 gC h0 n0 Z0 O SC hgC S1 S2 hab
  | [c0, c1], _ :: _ :: _ :: _, _, S2, _ => exact S2.elim
  | _ :: _ :: _ :: _, _, S1, _, _ => exact S1.elim

abbrev own_ch (va : Int32) : Int32 := (va &&& (255 : Int32)).toUInt32.toUInt16.toUInt32.toInt32
abbrev own_ch8 (va : Int32) : Int32 := own_ch ((va.toUInt32 >>> ((8 : Int32) &&& 31).toUInt32).toInt32)
theorem own_chv (va : Int32) : own_ch va = va &&& (255 : Int32) := by
  have h : (va &&& (255 : Int32)).toInt = va.toInt % 256 := c_mask va 255 8 (by decide) (by decide)
  have h5 := c_i2c (va &&& (255 : Int32))
  apply Int32.toInt_inj.mp
  show (va &&& (255 : Int32)).toUInt32.toUInt16.toUInt32.toInt32.toInt = _
  omega
theorem own_chr (va : Int32) : ¬ own_ch va < 0 ∧ ¬ (255 : Int32) < own_ch va := by
  have h : (va &&& (255 : Int32)).toInt = va.toInt % 256 := c_mask va 255 8 (by decide) (by decide)
  rw [own_chv, Int32.lt_iff_toInt_lt, Int32.lt_iff_toInt_lt]
  have e1 : (255 : Int32).toInt = 255 := rfl; have e0 : (0 : Int32).toInt = 0 := rfl
  omega
def own_ln (va : Int32) : Int32 := ((((va.toUInt32 >>> ((16 : Int32) &&& 31).toUInt32).toInt32) &&& (3 : Int32)) % (3 : Int32))
def own_s (va : Int32) : List Int32 := if own_ln va = (0 : Int32) then [] else if own_ln va = (1 : Int32) then [own_ch va] else [own_ch va, own_ch8 va]
def own_norm (va : Int32) : Int32 := if own_ln va = (0 : Int32) then 0 else if own_ln va = (1 : Int32) then (65536 : Int32) ||| (va &&& (255 : Int32)) else (131072 : Int32) ||| (va &&& (65535 : Int32))
theorem own_10 : ¬ (1 : Int32) = 0 := by decide
def own_N (z : Int32) : Nat := z.toUInt32.toNat
theorem own_Ninj {a b : Int32} : own_N a = own_N b ↔ a = b := ⟨fun h => congrArg Int32.ofUInt32 (UInt32.toNat_inj.mp h), fun h => by rw [h]⟩
theorem own_Nor (a b : Int32) : own_N (a ||| b) = own_N a ||| own_N b := by simp [own_N]
theorem own_Nand (a b : Int32) : own_N (a &&& b) = own_N a &&& own_N b := by simp [own_N]
theorem own_N255 (a : Int32) : own_N (a &&& (255 : Int32)) = own_N a % 256 := by rw [own_Nand]; exact Nat.and_two_pow_sub_one_eq_mod _ 8
theorem own_N65535 (a : Int32) : own_N (a &&& (65535 : Int32)) = own_N a % 65536 := by rw [own_Nand]; exact Nat.and_two_pow_sub_one_eq_mod _ 16
theorem own_Nshr (va : Int32) : own_N ((va.toUInt32 >>> ((8 : Int32) &&& 31).toUInt32).toInt32) = own_N va / 256 := by
  show (((va.toUInt32 >>> ((8 : Int32) &&& 31).toUInt32).toInt32)).toUInt32.toNat = va.toUInt32.toNat / 256
  rw [show ((8 : Int32) &&& 31).toUInt32 = (8 : UInt32) from rfl]
  simp [UInt32.toNat_shiftRight, Nat.shiftRight_eq_div_pow]
theorem own_N1 (a : Int32) : own_N ((65536 : Int32) ||| (a &&& (255 : Int32))) = 65536 + own_N a % 256 := by
  rw [own_Nor, own_N255]; have h : own_N a % 256 < 2 ^ 16 := by omega
  have q := Nat.two_pow_add_eq_or_of_lt h 1
  exact q.symm
theorem own_N2 (a : Int32) : own_N ((131072 : Int32) ||| (a &&& (65535 : Int32))) = 131072 + own_N a % 65536 := by
  rw [own_Nor, own_N65535]; have h : own_N a % 65536 < 2 ^ 16 := by omega
  have q := Nat.two_pow_add_eq_or_of_lt h 2
  exact q.symm
theorem own_sn (a b : Int32) : own_s a = own_s b ↔ own_norm a = own_norm b := by
  have e0 : own_N 0 = 0 := rfl
  rw [← own_Ninj (a := own_norm a)]
  unfold own_s own_norm
  by_cases a0 : own_ln a = 0 <;> by_cases a1 : own_ln a = 1 <;> by_cases b0 : own_ln b = 0 <;> by_cases b1 : own_ln b = 1 <;> simp only [a0, a1, b0, b1, own_10, ↓reduceIte] <;> simp only [own_N1, own_N2, e0, List.cons.injEq, and_true, reduceCtorEq, false_iff, true_iff, and_false, own_ch8, own_chv, ← own_Ninj, own_N255, own_Nshr] <;> first | omega | (exfalso; revert a0 a1; simp_all; done) | skip
def own_eq3 (c1 d1 c2 d2 c3 d3 : List Int32) : Int32 := if c1 = d1 then (if c2 = d2 then (if c3 = d3 then 1 else 0) else 0) else 0
theorem own_fin (p f s p' f' s' : Int32) : own_eq3 (own_s p) (own_s p') (own_s f) (own_s f') (own_s s) (own_s s') = if own_norm p = own_norm p' then (if own_norm f = own_norm f' then (if own_norm s = own_norm s' then 1 else 0) else 0) else 0 := by
  unfold own_eq3; simp only [own_sn]
theorem own_fin' (p f s p' f' s' : Int32) : own_eq3 (own_s p') (own_s p) (own_s f') (own_s f) (own_s s') (own_s s) = if own_norm p = own_norm p' then (if own_norm f = own_norm f' then (if own_norm s = own_norm s' then 1 else 0) else 0) else 0 := by
  rw [← own_fin]; unfold own_eq3; simp only [eq_comm (a := own_s p'), eq_comm (a := own_s f'), eq_comm (a := own_s s')]
theorem d2_0 : decode method_2_code 0 = .ok (.iload_n 0, 1) := by decide +kernel
theorem d2_1 : decode method_2_code 1 = .ok (.bipush 16, 2) := by decide +kernel
theorem d2_3 : decode method_2_code 3 = .ok (.iushr, 1) := by decide +kernel
theorem d2_4 : decode method_2_code 4 = .ok (.iconst 3, 1) := by decide +kernel
theorem d2_5 : decode method_2_code 5 = .ok (.iand, 1) := by decide +kernel
theorem d2_6 : decode method_2_code 6 = .ok (.iconst 3, 1) := by decide +kernel
theorem d2_7 : decode method_2_code 7 = .ok (.irem, 1) := by decide +kernel
theorem d2_8 : decode method_2_code 8 = .ok (.ireturn, 1) := by decide +kernel
def Q_rm2 (Z : State) (va : Int32) (h0 : Heap) (n0 : Nat) (v : Option Value) (h : Heap) (L : List Loc) : Prop := v = some (.int (own_ln va)) ∧ Fr n0 L ∧ h = h0
theorem pn_com_example_sure_paths_surepaths_model_ClassToExistentialEqualsPinLaw : plainName "com/example/sure_paths/surepaths/model/ClassToExistentialEqualsPinLaw" = true := by first | (simp [plainName, overriddenIn]; done) | decide +kernel
theorem ef_rm2 (m : MethodId) (va : Int32)  : entryFrame m #[(.int va)] 1 = mkF m 0 #[.val (.int va)] [] := by first | (simp [entryFrame, mkF, argsToLocals, Value.category]; done) | rfl
set_option maxRecDepth 65536 in
set_option maxHeartbeats 40000000 in
theorem rm2 (l : Launch) (Z : State) (a0 : Array Value) (hw : ∀ d ∈ tables_1, d.before a0 Z = true) (ws : List Jvm.Cond) (va : Int32) (h0 : Heap) (n0 : Nat) (Z0 : n0 ≤ h0.size)  :
    MetFree l (⟨"com/example/sure_paths/surepaths/model/ClassToExistentialEqualsPinLaw", "len", "(I)I"⟩ : MethodName) (head1 (Jvm.Cond.code (⟨"com/example/sure_paths/surepaths/model/ClassToExistentialEqualsPinLaw", "len", "(I)I"⟩ : MethodName) method_2_code 1 (some .int) :: ws) ({ frames := 0, cells := 0, slots := 0, locals := 0 } : Room)) (fun aa' U1' => aa' = #[(.int va)] ∧ Z.Warmed39 U1'.vm ∧ U1'.heap = h0) (fun _ _ _ _ _ => True) (fun _ U1' oo' U2' => ∃ vv' LL', oo' = .returned vv' ∧ (Q_rm2 Z va h0 n0) vv' U2'.heap LL' ∧ FrameEnd U1' oo' U2' LL' ({ frames := 0, cells := 0, slots := 0, locals := 0 } : Room).cells ({ frames := 0, cells := 0, slots := 0, locals := 0 } : Room).slots) := by
  refine MetFree.of_bodySF (plainFor_of_name pn_com_example_sure_paths_surepaths_model_ClassToExistentialEqualsPinLaw) hisR ?_
  intro p e s m args below meth c s₁ Bd hml0 hP hK
  obtain ⟨rfl, hZ, hh⟩ := hP
  have hx := Bd.exec
  have hby := Bd.bytes
  have hml : c.maxLocals = 1 := hml0
  have hown : s.vm.findClass "com/example/sure_paths/surepaths/model/ClassToExistentialEqualsPinLaw" = some m.cls := findClass_of_methodNamed Bd.named
  have hnm := (name_of_methodNamed Bd.named Bd.method).1
  have X0 : Stand p l e ({ frames := 0, cells := 0, slots := 0, locals := 0 } : Room) s m #[(.int va)] below meth c s₁ [] 0 0 := Stand.of_body Bd
  have e0 : s₁.heap = h0 := by rw [← hh, Bd.state]; rfl
  have N0 := Fr.nil n0
  refine go_of (A := s₁.setTop (entryFrame m #[(.int va)] 1)) (B := s₁.setTop (mkF m 0 #[.val (.int va)] [])) (fun _ kk' => castTop (ef_rm2 m va) kk') ?_
  refine go_of (B := (s₁.setTop (mkF m 1 #[.val (.int va)] [(.int va)]))) (fun _ kk => XS.iloadN X0.here hx rfl (hb hby d2_0) rfl kk) ?_
  refine go_of (B := (s₁.setTop (mkF m 3 #[.val (.int va)] [(.int (16 : Int32)), (.int va)]))) (fun _ kk => XS.bipush X0.here hx rfl (hb hby d2_1) kk) ?_
  refine go_of (B := (s₁.setTop (mkF m 4 #[.val (.int va)] [(.int ((va.toUInt32 >>> ((16 : Int32) &&& 31).toUInt32).toInt32))]))) (fun _ kk => XS.iushr X0.here hx rfl (hb hby d2_3) rfl kk) ?_
  refine go_of (B := (s₁.setTop (mkF m 5 #[.val (.int va)] [(.int (3 : Int32)), (.int ((va.toUInt32 >>> ((16 : Int32) &&& 31).toUInt32).toInt32))]))) (fun _ kk => XS.iconst X0.here hx rfl (hb hby d2_4) kk) ?_
  refine go_of (B := (s₁.setTop (mkF m 6 #[.val (.int va)] [(.int (((va.toUInt32 >>> ((16 : Int32) &&& 31).toUInt32).toInt32) &&& (3 : Int32)))]))) (fun _ kk => XS.iand X0.here hx rfl (hb hby d2_5) rfl kk) ?_
  refine go_of (B := (s₁.setTop (mkF m 7 #[.val (.int va)] [(.int (3 : Int32)), (.int (((va.toUInt32 >>> ((16 : Int32) &&& 31).toUInt32).toInt32) &&& (3 : Int32)))]))) (fun _ kk => XS.iconst X0.here hx rfl (hb hby d2_6) kk) ?_
  refine go_of (B := (s₁.setTop (mkF m 8 #[.val (.int va)] [(.int ((((va.toUInt32 >>> ((16 : Int32) &&& 31).toUInt32).toInt32) &&& (3 : Int32)) % (3 : Int32)))]))) (fun _ kk => iremM X0 hx rfl (hb hby d2_7) rfl (by decide) kk) ?_
  refine go_end X0 (v := some (.int ((((va.toUInt32 >>> ((16 : Int32) &&& 31).toUInt32).toInt32) &&& (3 : Int32)) % (3 : Int32)))) (fun h => by rw [Bd.returns] at h; cases h) Bd.notSynchronized (by decide) (by decide) (Q := (Q_rm2 Z va h0 n0)) ?_ (fun fs hr => own_retI X0 hx Bd.returns (hb hby d2_8) hr)
  show (fun (v : Option Value) (h : Heap) (L : List Loc) => v = some (.int (own_ln va)) ∧ Fr n0 L ∧ h = h0) (some (.int ((((va.toUInt32 >>> ((16 : Int32) &&& 31).toUInt32).toInt32) &&& (3 : Int32)) % (3 : Int32)))) s₁.heap _
  rw [e0]
  exact ⟨rfl, N0, rfl⟩
theorem d8_0 : decode method_4_code 0 = .ok (.iload_n 0, 1) := by decide +kernel
theorem d8_1 : decode method_4_code 1 = .ok (.invokestatic 7, 3) := by decide +kernel
theorem pd__I_I : parseMethodDescriptor "(I)I" = some ⟨[.int], some .int⟩ := by decide +kernel
theorem d8_4 : decode method_4_code 4 = .ok (.istore_n 1, 1) := by decide +kernel
theorem d8_5 : decode method_4_code 5 = .ok (.iload_n 1, 1) := by decide +kernel
theorem d8_6 : decode method_4_code 6 = .ok (.ifCond .ne 5, 3) := by decide +kernel
theorem d8_9 : decode method_4_code 9 = .ok (.iconst 0, 1) := by decide +kernel
theorem d8_10 : decode method_4_code 10 = .ok (.ireturn, 1) := by decide +kernel
def Q_rm8 (Z : State) (va : Int32) (h0 : Heap) (n0 : Nat) (v : Option Value) (h : Heap) (L : List Loc) : Prop := v = some (.int (own_norm va)) ∧ Fr n0 L ∧ h = h0
theorem d8_11 : decode method_4_code 11 = .ok (.iload_n 1, 1) := by decide +kernel
theorem d8_12 : decode method_4_code 12 = .ok (.iconst 1, 1) := by decide +kernel
theorem d8_13 : decode method_4_code 13 = .ok (.if_icmp .ne 12, 3) := by decide +kernel
theorem d8_16 : decode method_4_code 16 = .ok (.ldc 18, 2) := by decide +kernel
theorem d8_18 : decode method_4_code 18 = .ok (.iload_n 0, 1) := by decide +kernel
theorem d8_19 : decode method_4_code 19 = .ok (.sipush 255, 3) := by decide +kernel
theorem d8_22 : decode method_4_code 22 = .ok (.iand, 1) := by decide +kernel
theorem d8_23 : decode method_4_code 23 = .ok (.ior, 1) := by decide +kernel
theorem d8_24 : decode method_4_code 24 = .ok (.ireturn, 1) := by decide +kernel
theorem d8_25 : decode method_4_code 25 = .ok (.ldc 19, 2) := by decide +kernel
theorem d8_27 : decode method_4_code 27 = .ok (.iload_n 0, 1) := by decide +kernel
theorem d8_28 : decode method_4_code 28 = .ok (.ldc 20, 2) := by decide +kernel
theorem d8_30 : decode method_4_code 30 = .ok (.iand, 1) := by decide +kernel
theorem d8_31 : decode method_4_code 31 = .ok (.ior, 1) := by decide +kernel
theorem d8_32 : decode method_4_code 32 = .ok (.ireturn, 1) := by decide +kernel
theorem ef_rm8 (m : MethodId) (va : Int32)  : entryFrame m #[(.int va)] 2 = mkF m 0 #[.val (.int va), .unset] [] := by first | (simp [entryFrame, mkF, argsToLocals, Value.category]; done) | rfl
set_option maxRecDepth 65536 in
set_option maxHeartbeats 40000000 in
theorem rm8 (l : Launch) (Z : State) (a0 : Array Value) (hw : ∀ d ∈ tables_1, d.before a0 Z = true) (ws : List Jvm.Cond) (va : Int32) (h0 : Heap) (n0 : Nat) (Z0 : n0 ≤ h0.size)  :
    MetFree l (⟨"com/example/sure_paths/surepaths/model/ClassToExistentialEqualsPinLaw", "norm", "(I)I"⟩ : MethodName) (head1 (Jvm.Cond.code (⟨"com/example/sure_paths/surepaths/model/ClassToExistentialEqualsPinLaw", "norm", "(I)I"⟩ : MethodName) method_4_code 2 (some .int) :: ws) ({ frames := 1, cells := 0, slots := 0, locals := 12 } : Room)) (fun aa' U1' => aa' = #[(.int va)] ∧ Z.Warmed39 U1'.vm ∧ U1'.heap = h0) (fun _ _ _ _ _ => True) (fun _ U1' oo' U2' => ∃ vv' LL', oo' = .returned vv' ∧ (Q_rm8 Z va h0 n0) vv' U2'.heap LL' ∧ FrameEnd U1' oo' U2' LL' ({ frames := 1, cells := 0, slots := 0, locals := 12 } : Room).cells ({ frames := 1, cells := 0, slots := 0, locals := 12 } : Room).slots) := by
  refine MetFree.of_bodySF (plainFor_of_name pn_com_example_sure_paths_surepaths_model_ClassToExistentialEqualsPinLaw) hisR ?_
  intro p e s m args below meth c s₁ Bd hml0 hP hK
  obtain ⟨rfl, hZ, hh⟩ := hP
  have hx := Bd.exec
  have hby := Bd.bytes
  have hml : c.maxLocals = 2 := hml0
  have hown : s.vm.findClass "com/example/sure_paths/surepaths/model/ClassToExistentialEqualsPinLaw" = some m.cls := findClass_of_methodNamed Bd.named
  have hnm := (name_of_methodNamed Bd.named Bd.method).1
  have X0 : Stand p l e ({ frames := 1, cells := 0, slots := 0, locals := 12 } : Room) s m #[(.int va)] below meth c s₁ [] 0 0 := Stand.of_body Bd
  have e0 : s₁.heap = h0 := by rw [← hh, Bd.state]; rfl
  have N0 := Fr.nil n0
  refine go_of (A := s₁.setTop (entryFrame m #[(.int va)] 2)) (B := s₁.setTop (mkF m 0 #[.val (.int va), .unset] [])) (fun _ kk' => castTop (ef_rm8 m va) kk') ?_
  refine go_of (B := (s₁.setTop (mkF m 1 #[.val (.int va), .unset] [(.int va)]))) (fun _ kk => XS.iloadN X0.here hx rfl (hb hby d8_0) rfl kk) ?_
  obtain ⟨_, _, ⟨T1, L1, k1, n1⟩, -, X1, ⟨Lc1, hQ1, l1, y1, z1⟩, st1⟩ := Jvm.LawKit.callS X0 hx (y := (⟨"com/example/sure_paths/surepaths/model/ClassToExistentialEqualsPinLaw", "len", "(I)I"⟩ : MethodName)) hown (mvT hZ (hw _ (List.mem_of_getElem? (i := 7) rfl))) (mvT hZ (hw _ (List.mem_of_getElem? (i := 8) rfl))) (mvT hZ (hw _ (List.mem_of_getElem? (i := 5) rfl))) (mvT hZ (hw _ (List.mem_of_getElem? (i := 9) rfl))) (by decide) (backOf (W := 0) (rm2 l Z a0 hw [] va h0 n0 (by first | omega | exact own_ne (by omega) | exact own_le (by omega) | exact own_lt (by omega))) hZ (hw _ (List.mem_of_getElem? (i := 9) rfl)) (hw _ (List.mem_of_getElem? (i := 5) rfl)) (by decide) (by decide)) (g := (mkF m 1 #[.val (.int va), .unset] [(.int va)])) rfl (by rw [hml]; rfl) (argsL := [(.int va)]) (rest := []) (lenOf pd__I_I rfl) rfl (by show 2 * 0 + _ ≤ _; exact Nat.le_of_eq rfl) (hb hby d8_1) (fun _ _ => ⟨rfl, e0, (by decide : 0 + 0 ≤ _), (by decide : 0 + 0 ≤ _)⟩)
  dsimp only [Pt.U, Pt.locs, Pt.cells, Pt.slots] at X1 l1 y1 z1 st1 hQ1
  subst l1 y1 z1
  obtain ⟨rfl, N1q, e1⟩ := hQ1
  have N1 := Fr.app N0 N1q
  refine go_of (B := (T1.setTop (mkF m 4 #[.val (.int va), .unset] [(.int (own_ln va))]))) (st1) ?_
  refine go_of (B := (T1.setTop (mkF m 5 #[.val (.int va), .val (.int (own_ln va))] []))) (fun _ kk => XS.istoreN X1.here hx rfl (hb hby d8_4) rfl rfl kk) ?_
  refine go_of (B := (T1.setTop (mkF m 6 #[.val (.int va), .val (.int (own_ln va))] [(.int (own_ln va))]))) (fun _ kk => XS.iloadN X1.here hx rfl (hb hby d8_5) rfl kk) ?_
  by_cases hc2 : (own_ln va) = (0 : Int32)
  · refine go_of (B := (T1.setTop (mkF m 9 #[.val (.int va), .val (.int (own_ln va))] []))) (fun _ kk => XS.ifNo X1.here hx rfl (hb hby d8_6) rfl ((if0 _ _).trans (teq hc2).2) kk) ?_
    refine go_of (B := (T1.setTop (mkF m 10 #[.val (.int va), .val (.int (own_ln va))] [(.int (0 : Int32))]))) (fun _ kk => XS.iconst X1.here hx rfl (hb hby d8_9) kk) ?_
    refine go_end X1 (v := some (.int (0 : Int32))) (fun h => by rw [Bd.returns] at h; cases h) Bd.notSynchronized (by decide) (by decide) (Q := (Q_rm8 Z va h0 n0)) ?_ (fun fs hr => own_retI X1 hx Bd.returns (hb hby d8_10) hr)
    show (fun (v : Option Value) (h : Heap) (L : List Loc) => v = some (.int (own_norm va)) ∧ Fr n0 L ∧ h = h0) (some (.int (0 : Int32))) T1.heap _
    rw [e1]
    refine ⟨?_, N1, rfl⟩
    simp only [own_norm, own_10, hc2, ↓reduceIte]
  · refine go_of (B := (T1.setTop (mkF m 11 #[.val (.int va), .val (.int (own_ln va))] []))) (fun _ kk => XS.ifYes X1.here hx rfl (pc0 := 6) (pc' := 11) rfl (hb hby d8_6) rfl ((if0 _ _).trans (feq hc2).2) (by decide) (by decide) kk) ?_
    refine go_of (B := (T1.setTop (mkF m 12 #[.val (.int va), .val (.int (own_ln va))] [(.int (own_ln va))]))) (fun _ kk => XS.iloadN X1.here hx rfl (hb hby d8_11) rfl kk) ?_
    refine go_of (B := (T1.setTop (mkF m 13 #[.val (.int va), .val (.int (own_ln va))] [(.int (1 : Int32)), (.int (own_ln va))]))) (fun _ kk => XS.iconst X1.here hx rfl (hb hby d8_12) kk) ?_
    by_cases hc3 : (own_ln va) = (1 : Int32)
    · refine go_of (B := (T1.setTop (mkF m 16 #[.val (.int va), .val (.int (own_ln va))] []))) (fun _ kk => XS.icmpNo X1.here hx rfl (hb hby d8_13) rfl (teq hc3).2 kk) ?_
      refine go_of (B := (T1.setTop (mkF m 18 #[.val (.int va), .val (.int (own_ln va))] [(.int (65536 : Int32))]))) (fun _ kk => X1.ldcInt hx hown (mvT hZ (hw _ (List.mem_of_getElem? (i := 100) rfl))) (g := (mkF m 16 #[.val (.int va), .val (.int (own_ln va))] [])) rfl (hb hby d8_16) _ kk) ?_
      refine go_of (B := (T1.setTop (mkF m 19 #[.val (.int va), .val (.int (own_ln va))] [(.int va), (.int (65536 : Int32))]))) (fun _ kk => XS.iloadN X1.here hx rfl (hb hby d8_18) rfl kk) ?_
      refine go_of (B := (T1.setTop (mkF m 22 #[.val (.int va), .val (.int (own_ln va))] [(.int (255 : Int32)), (.int va), (.int (65536 : Int32))]))) (fun _ kk => XS.sipush X1.here hx rfl (hb hby d8_19) kk) ?_
      refine go_of (B := (T1.setTop (mkF m 23 #[.val (.int va), .val (.int (own_ln va))] [(.int (va &&& (255 : Int32))), (.int (65536 : Int32))]))) (fun _ kk => XS.iand X1.here hx rfl (hb hby d8_22) rfl kk) ?_
      refine go_of (B := (T1.setTop (mkF m 24 #[.val (.int va), .val (.int (own_ln va))] [(.int ((65536 : Int32) ||| (va &&& (255 : Int32))))]))) (fun _ kk => XS.ior X1.here hx rfl (hb hby d8_23) rfl kk) ?_
      refine go_end X1 (v := some (.int ((65536 : Int32) ||| (va &&& (255 : Int32))))) (fun h => by rw [Bd.returns] at h; cases h) Bd.notSynchronized (by decide) (by decide) (Q := (Q_rm8 Z va h0 n0)) ?_ (fun fs hr => own_retI X1 hx Bd.returns (hb hby d8_24) hr)
      show (fun (v : Option Value) (h : Heap) (L : List Loc) => v = some (.int (own_norm va)) ∧ Fr n0 L ∧ h = h0) (some (.int ((65536 : Int32) ||| (va &&& (255 : Int32))))) T1.heap _
      rw [e1]
      refine ⟨?_, N1, rfl⟩
      simp only [own_norm, own_10, hc2, hc3, ↓reduceIte]
    · refine go_of (B := (T1.setTop (mkF m 25 #[.val (.int va), .val (.int (own_ln va))] []))) (fun _ kk => XS.icmpYes X1.here hx rfl (pc0 := 13) (pc' := 25) rfl (hb hby d8_13) rfl (feq hc3).2 (by decide) (by decide) kk) ?_
      refine go_of (B := (T1.setTop (mkF m 27 #[.val (.int va), .val (.int (own_ln va))] [(.int (131072 : Int32))]))) (fun _ kk => X1.ldcInt hx hown (mvT hZ (hw _ (List.mem_of_getElem? (i := 98) rfl))) (g := (mkF m 25 #[.val (.int va), .val (.int (own_ln va))] [])) rfl (hb hby d8_25) _ kk) ?_
      refine go_of (B := (T1.setTop (mkF m 28 #[.val (.int va), .val (.int (own_ln va))] [(.int va), (.int (131072 : Int32))]))) (fun _ kk => XS.iloadN X1.here hx rfl (hb hby d8_27) rfl kk) ?_
      refine go_of (B := (T1.setTop (mkF m 30 #[.val (.int va), .val (.int (own_ln va))] [(.int (65535 : Int32)), (.int va), (.int (131072 : Int32))]))) (fun _ kk => X1.ldcInt hx hown (mvT hZ (hw _ (List.mem_of_getElem? (i := 99) rfl))) (g := (mkF m 28 #[.val (.int va), .val (.int (own_ln va))] [(.int va), (.int (131072 : Int32))])) rfl (hb hby d8_28) _ kk) ?_
      refine go_of (B := (T1.setTop (mkF m 31 #[.val (.int va), .val (.int (own_ln va))] [(.int (va &&& (65535 : Int32))), (.int (131072 : Int32))]))) (fun _ kk => XS.iand X1.here hx rfl (hb hby d8_30) rfl kk) ?_
      refine go_of (B := (T1.setTop (mkF m 32 #[.val (.int va), .val (.int (own_ln va))] [(.int ((131072 : Int32) ||| (va &&& (65535 : Int32))))]))) (fun _ kk => XS.ior X1.here hx rfl (hb hby d8_31) rfl kk) ?_
      refine go_end X1 (v := some (.int ((131072 : Int32) ||| (va &&& (65535 : Int32))))) (fun h => by rw [Bd.returns] at h; cases h) Bd.notSynchronized (by decide) (by decide) (Q := (Q_rm8 Z va h0 n0)) ?_ (fun fs hr => own_retI X1 hx Bd.returns (hb hby d8_32) hr)
      show (fun (v : Option Value) (h : Heap) (L : List Loc) => v = some (.int (own_norm va)) ∧ Fr n0 L ∧ h = h0) (some (.int ((131072 : Int32) ||| (va &&& (65535 : Int32))))) T1.heap _
      rw [e1]
      refine ⟨?_, N1, rfl⟩
      simp only [own_norm, own_10, hc2, hc3, ↓reduceIte]
theorem d4_0 : decode jdk_42_method_149_code 0 = .ok (.aload_n 0, 1) := by decide +kernel
theorem d4_1 : decode jdk_42_method_149_code 1 = .ok (.invokespecial 1, 3) := by decide +kernel
theorem d4_4 : decode jdk_42_method_149_code 4 = .ok (.iload_n 3, 1) := by decide +kernel
theorem d4_5 : decode jdk_42_method_149_code 5 = .ok (.ifCond .ne 22, 3) := by decide +kernel
theorem d4_8 : decode jdk_42_method_149_code 8 = .ok (.aload_n 0, 1) := by decide +kernel
theorem d4_9 : decode jdk_42_method_149_code 9 = .ok (.ldc 7, 2) := by decide +kernel
theorem d4_11 : decode jdk_42_method_149_code 11 = .ok (.getfield 9, 3) := by decide +kernel
theorem d4_14 : decode jdk_42_method_149_code 14 = .ok (.putfield 9, 3) := by decide +kernel
theorem d4_17 : decode jdk_42_method_149_code 17 = .ok (.aload_n 0, 1) := by decide +kernel
theorem d4_18 : decode jdk_42_method_149_code 18 = .ok (.ldc 7, 2) := by decide +kernel
theorem d4_20 : decode jdk_42_method_149_code 20 = .ok (.getfield 15, 3) := by decide +kernel
theorem d4_23 : decode jdk_42_method_149_code 23 = .ok (.putfield 15, 3) := by decide +kernel
theorem d4_26 : decode jdk_42_method_149_code 26 = .ok (.return_, 1) := by decide +kernel
def Q_str_i4_0 (Z : State) (a : Addr) (s' : Addr) (u2 : Value) (h0 : Heap) (n0 : Nat) (v : Option Value) (h : Heap) (L : List Loc) : Prop := v = none ∧ Fr n0 L ∧ Keep h0 h [a] ∧ Str Z h a 0 []
theorem ef_str_i4_0 (m : MethodId) (a : Addr) (s' : Addr)  : entryFrame m #[(.ref a), (.ref s'), (.int (0 : Int32)), (.int (0 : Int32)), .null] 6 = mkF m 0 #[.val (.ref a), .val (.ref s'), .val (.int (0 : Int32)), .val (.int (0 : Int32)), .val .null, .unset] [] := by first | (simp [entryFrame, mkF, argsToLocals, Value.category]; done) | rfl
set_option maxRecDepth 65536 in
set_option maxHeartbeats 40000000 in
theorem str_i4_0 (l : Launch) (Z : State) (a0 : Array Value) (hw : ∀ d ∈ tables_1, d.before a0 Z = true) (ws : List Jvm.Cond) (a : Addr) (s' : Addr) (u2 : Value) (h0 : Heap) (n0 : Nat) (Z0 : n0 ≤ h0.size) (E : Exa Z h0 a "java/lang/String") (F : Fld Z h0 a "java/lang/String" "value" "[B" .null) (F2 : Fld Z h0 a "java/lang/String" "coder" "B" u2) (g : n0 ≤ a) :
    MetFree l (⟨"java/lang/String", "<init>", "([CIILjava/lang/Void;)V"⟩ : MethodName) (head1 (Jvm.Cond.code (⟨"java/lang/String", "<init>", "([CIILjava/lang/Void;)V"⟩ : MethodName) jdk_42_method_149_code 6 none :: ws) ({ frames := 1, cells := 4, slots := 8, locals := 12 } : Room)) (fun aa' U1' => aa' = #[(.ref a), (.ref s'), (.int (0 : Int32)), (.int (0 : Int32)), .null] ∧ Z.Warmed39 U1'.vm ∧ U1'.heap = h0 ∧ CHv Z own_EL U1'.vm h0) (fun _ _ _ _ _ => True) (fun _ U1' oo' U2' => ∃ vv' LL', oo' = .returned vv' ∧ (Q_str_i4_0 Z a s' u2 h0 n0) vv' U2'.heap LL' ∧ CHr Z own_EL U1'.vm U1'.heap U2'.vm U2'.heap ∧ ReturnedEndW U1' oo' U2' LL' ({ frames := 1, cells := 4, slots := 8, locals := 12 } : Room).cells ({ frames := 1, cells := 4, slots := 8, locals := 12 } : Room).slots) := by
  refine MetFree.of_bodySF (plainFor_of_name pn_java_lang_String) hisR ?_
  intro p e s m args below meth c s₁ Bd hml0 hP hK
  obtain ⟨rfl, hZ, hh, hCH⟩ := hP
  have hx := Bd.exec
  have hby := Bd.bytes
  have hml : c.maxLocals = 6 := hml0
  have hown : s.vm.findClass "java/lang/String" = some m.cls := findClass_of_methodNamed Bd.named
  have hnm := (name_of_methodNamed Bd.named Bd.method).1
  have X0 : Stand p l e ({ frames := 1, cells := 4, slots := 8, locals := 12 } : Room) (s.setVm s.vm) m #[(.ref a), (.ref s'), (.int (0 : Int32)), (.int (0 : Int32)), .null] below meth c s₁ [] 0 0 := Stand.of_body Bd
  have e0 : s₁.heap = h0 := by rw [← hh, Bd.state]; rfl
  have N0 := Fr.nil n0
  have hS : s.Since s.vm 0 := (State.WarmedH.refl s).since 0
  have hh0 := hh
  have hEL := own_EW hw
  have HC0 := CHr.refl hCH
  have lta := own_nlt (E.lt)
  refine go_of (A := s₁.setTop (entryFrame m #[(.ref a), (.ref s'), (.int (0 : Int32)), (.int (0 : Int32)), .null] 6)) (B := s₁.setTop (mkF m 0 #[.val (.ref a), .val (.ref s'), .val (.int (0 : Int32)), .val (.int (0 : Int32)), .val .null, .unset] [])) (fun _ kk' => castTop (ef_str_i4_0 m a s') kk') ?_
  refine go_of (B := (s₁.setTop (mkF m 1 #[.val (.ref a), .val (.ref s'), .val (.int (0 : Int32)), .val (.int (0 : Int32)), .val .null, .unset] [(.ref a)]))) (fun _ kk => XS.aloadN X0.here hx rfl (hb hby d4_0) rfl rfl kk) ?_
  obtain ⟨T1, X1, e1, st1⟩ := initO X0 hx hZ hown (hw _ (List.mem_of_getElem? (i := 21) rfl)) (hw _ (List.mem_of_getElem? (i := 22) rfl)) (hw _ (List.mem_of_getElem? (i := 23) rfl)) e0 (g := (mkF m 1 #[.val (.ref a), .val (.ref s'), .val (.int (0 : Int32)), .val (.int (0 : Int32)), .val .null, .unset] [(.ref a)])) rfl (by rw [hml]; rfl) rfl (hb hby d4_1) (by decide) (W := 0) (by show 2 * 0 + _ ≤ _; exact Nat.le_of_eq rfl) (by decide)
  refine go_of (B := (T1.setTop (mkF m 4 #[.val (.ref a), .val (.ref s'), .val (.int (0 : Int32)), .val (.int (0 : Int32)), .val .null, .unset] []))) (st1) ?_
  refine go_of (B := (T1.setTop (mkF m 5 #[.val (.ref a), .val (.ref s'), .val (.int (0 : Int32)), .val (.int (0 : Int32)), .val .null, .unset] [(.int (0 : Int32))]))) (fun _ kk => XS.iloadN X1.here hx rfl (hb hby d4_4) rfl kk) ?_
  refine go_of (B := (T1.setTop (mkF m 8 #[.val (.ref a), .val (.ref s'), .val (.int (0 : Int32)), .val (.int (0 : Int32)), .val .null, .unset] []))) (fun _ kk => XS.ifNo X1.here hx rfl (hb hby d4_5) rfl ((if0 _ _).trans (teq (by decide : (0 : Int32) = (0 : Int32))).2) kk) ?_
  have sf_2 := (own_safe_null hZ.alike E F : (Safe Z own_EL _ h0 a))
  refine go_of (B := (T1.setTop (mkF m 9 #[.val (.ref a), .val (.ref s'), .val (.int (0 : Int32)), .val (.int (0 : Int32)), .val .null, .unset] [(.ref a)]))) (fun _ kk => XS.aloadN X1.here hx rfl (hb hby d4_8) rfl rfl kk) ?_
  obtain ⟨b3, T3, h3, k3, t3, kt3, X3, e3, E3, hS, hk3, hZ, hown, A3, Fc3, Fv3, V3, lb3, lt3, HR3, -, ne3, st3⟩ := ldcCH X1 hx hZ hown (hw _ (List.mem_of_getElem? (i := 24) rfl)) (own_wS hw) e1 hS (by first | omega | exact own_ne (by omega) | exact own_le (by omega) | exact own_lt (by omega)) hEL (List.mem_of_getElem? (i := 0) rfl) HC0.1 (vs := []) (z := 0) ⟨(by decide), rfl⟩ (by decide) rfl (g := (mkF m 9 #[.val (.ref a), .val (.ref s'), .val (.int (0 : Int32)), .val (.int (0 : Int32)), .val .null, .unset] [(.ref a)])) rfl (hb hby d4_9) (n := 0) (by decide) (by decide) (by decide) (by decide)
  have lb3 := own_nlt lb3
  have lt3 := own_nlt lt3
  have sz3 := E3.1
  have HC3 := HC0.trans HR3
  have sf_4 := (HR3.safe (by first | omega | exact own_ne (by omega) | exact own_le (by omega) | exact own_lt (by omega)) sf_2)
  have nt3_a : @Ne Nat t3 a := fun q => (ne3 a sf_4).2 q.symm
  have nb3_a : @Ne Nat b3 a := fun q => (ne3 a sf_4).1 q.symm
  refine go_of (B := (T3.setTop (mkF m 11 #[.val (.ref a), .val (.ref s'), .val (.int (0 : Int32)), .val (.int (0 : Int32)), .val .null, .unset] [(.ref b3), (.ref a)]))) (st3) ?_
  obtain ⟨T5, X5, e5, st5⟩ := getF X3 hx hZ hown (host := "") (Or.inl (hw _ (List.mem_of_getElem? (i := 30) rfl))) Via.refl e3 Fv3 (g := (mkF m 11 #[.val (.ref a), .val (.ref s'), .val (.int (0 : Int32)), .val (.int (0 : Int32)), .val .null, .unset] [(.ref b3), (.ref a)])) rfl rfl (hb hby d4_11)
  refine go_of (B := (T5.setTop (mkF m 14 #[.val (.ref a), .val (.ref s'), .val (.int (0 : Int32)), .val (.int (0 : Int32)), .val .null, .unset] [(.ref t3), (.ref a)]))) (st5) ?_
  have cf_6 := (E.ext E3)
  have cf_7 := (F.ext E3)
  obtain ⟨T8, h8, X8, e8, W8, st8⟩ := putF X5 hx hZ hown (host := "") (Or.inl (hw _ (List.mem_of_getElem? (i := 30) rfl))) Via.refl e5 cf_7 cf_6 (Or.inr ⟨(hw _ (List.mem_of_getElem? (i := 26) rfl)), rfl, hnm⟩) (hw _ (List.mem_of_getElem? (i := 11) rfl)) (ty := (.array .byte)) (by decide) rfl rfl (g := (mkF m 14 #[.val (.ref a), .val (.ref s'), .val (.int (0 : Int32)), .val (.int (0 : Int32)), .val .null, .unset] [(.ref t3), (.ref a)])) rfl rfl (hb hby d4_14)
  have sz8 := W8.size
  have Fw8 := cf_7.same W8
  have N8 := Fr.snoc X8 N0 (g : n0 ≤ a)
  have SF8 := sf_4
  have HC8 := HC3.trans (CHr.wr W8 SF8 HC3.1)
  refine go_of (B := (T8.setTop (mkF m 17 #[.val (.ref a), .val (.ref s'), .val (.int (0 : Int32)), .val (.int (0 : Int32)), .val .null, .unset] []))) (st8) ?_
  refine go_of (B := (T8.setTop (mkF m 18 #[.val (.ref a), .val (.ref s'), .val (.int (0 : Int32)), .val (.int (0 : Int32)), .val .null, .unset] [(.ref a)]))) (fun _ kk => XS.aloadN X8.here hx rfl (hb hby d4_17) rfl rfl kk) ?_
  obtain ⟨b9, T9, h9, k9, t9, kt9, X9, e9, E9, hS, hk9, hZ, hown, A9, Fc9, Fv9, V9, lb9, lt9, HR9, -, ne9, st9⟩ := ldcCH X8 hx hZ hown (hw _ (List.mem_of_getElem? (i := 24) rfl)) (own_wS hw) e8 hS (by first | omega | exact own_ne (by omega) | exact own_le (by omega) | exact own_lt (by omega)) hEL (List.mem_of_getElem? (i := 0) rfl) HC8.1 (vs := []) (z := 0) ⟨(by decide), rfl⟩ (by decide) rfl (g := (mkF m 18 #[.val (.ref a), .val (.ref s'), .val (.int (0 : Int32)), .val (.int (0 : Int32)), .val .null, .unset] [(.ref a)])) rfl (hb hby d4_18) (n := 0) (by decide) (by decide) (by decide) (by decide)
  have lb9 := own_nlt lb9
  have lt9 := own_nlt lt9
  have sz9 := E9.1
  have HC9 := HC8.trans HR9
  have sf_10 := (HR9.safe (by first | omega | exact own_ne (by omega) | exact own_le (by omega) | exact own_lt (by omega)) (Safe.wr W8 SF8 HC3.1 sf_4))
  have nt9_a : @Ne Nat t9 a := fun q => (ne9 a sf_10).2 q.symm
  have nb9_a : @Ne Nat b9 a := fun q => (ne9 a sf_10).1 q.symm
  refine go_of (B := (T9.setTop (mkF m 20 #[.val (.ref a), .val (.ref s'), .val (.int (0 : Int32)), .val (.int (0 : Int32)), .val .null, .unset] [(.ref b9), (.ref a)]))) (st9) ?_
  obtain ⟨T11, X11, e11, st11⟩ := getF X9 hx hZ hown (host := "") (Or.inl (hw _ (List.mem_of_getElem? (i := 31) rfl))) Via.refl e9 Fc9 (g := (mkF m 20 #[.val (.ref a), .val (.ref s'), .val (.int (0 : Int32)), .val (.int (0 : Int32)), .val .null, .unset] [(.ref b9), (.ref a)])) rfl rfl (hb hby d4_20)
  refine go_of (B := (T11.setTop (mkF m 23 #[.val (.ref a), .val (.ref s'), .val (.int (0 : Int32)), .val (.int (0 : Int32)), .val .null, .unset] [(.int (0 : Int32)), (.ref a)]))) (st11) ?_
  have cf_12 := ((cf_6.wr W8).ext E9)
  have cf_13 := (((F2.ext E3).other W8 (Or.inr (slot_ne (Or.inr (hw _ (List.mem_of_getElem? (i := 27) rfl))) (Or.inr (hw _ (List.mem_of_getElem? (i := 26) rfl))) (by decide) (t := .byte) (t' := (.array .byte)) (by decide) (by decide)))).ext E9)
  obtain ⟨T14, h14, X14, e14, W14, st14⟩ := putFN X11 hx hZ hown (hw _ (List.mem_of_getElem? (i := 31) rfl)) Via.refl e11 cf_13 cf_12 (Or.inr ⟨(hw _ (List.mem_of_getElem? (i := 27) rfl)), rfl, hnm⟩) (hw _ (List.mem_of_getElem? (i := 11) rfl)) (ty := .byte) (v' := (.int (nar .byte (0 : Int32)))) (by decide) rfl (fits_nar_byte _) (g := (mkF m 23 #[.val (.ref a), .val (.ref s'), .val (.int (0 : Int32)), .val (.int (0 : Int32)), .val .null, .unset] [(.int (0 : Int32)), (.ref a)])) rfl rfl (hb hby d4_23)
  have sz14 := W14.size
  have Fw14 := cf_13.same W14
  have N14 := Fr.snoc X14 N8 (g : n0 ≤ a)
  have SF14 := sf_10
  have HC14 := HC9.trans (CHr.wr W14 SF14 HC9.1)
  refine go_of (B := (T14.setTop (mkF m 26 #[.val (.ref a), .val (.ref s'), .val (.int (0 : Int32)), .val (.int (0 : Int32)), .val .null, .unset] []))) (st14) ?_
  have cf_15 := (((V3.other W8 (by first | omega | exact own_ne (by omega) | exact own_le (by omega) | exact own_lt (by omega))).ext E9).other W14 (by first | omega | exact own_ne (by omega) | exact own_le (by omega) | exact own_lt (by omega)))
  have cf_16 := ((Fw8.ext E9).other W14 (Or.inr (slot_ne (Or.inr (hw _ (List.mem_of_getElem? (i := 26) rfl))) (Or.inr (hw _ (List.mem_of_getElem? (i := 27) rfl))) (by decide) (t := (.array .byte)) (t' := .byte) (by decide) (by decide))))
  have cf_17 := (cf_12.wr W14)
  refine go_endH X14 hZ hEL HC14 hh0 e14 hS (by rw [e14]; omega) (v := none) (fun _ => rfl) Bd.notSynchronized (by decide) (by decide) (Q := (Q_str_i4_0 Z a s' u2 h0 n0)) ?_ (fun fs hr => X14.returnOut hx Bd.returns (hb hby d4_26) hr)
  show (fun (v : Option Value) (h : Heap) (L : List Loc) => v = none ∧ Fr n0 L ∧ Keep h0 h [a] ∧ Str Z h a 0 []) (none) T14.heap _
  rw [e14]
  exact ⟨rfl, N14, (((((Keep.refl h0 [a]).ext E3).wr W8 (Or.inl (List.mem_of_getElem? (i := 0) rfl))).ext E9).wr W14 (Or.inl (List.mem_of_getElem? (i := 0) rfl))), ⟨t3, kt3, cf_17, Fw14, cf_16, cf_15, (fun _ q => nomatch q)⟩⟩
theorem d3_0 : decode jdk_42_method_3_code 0 = .ok (.aload_n 0, 1) := by decide +kernel
theorem d3_1 : decode jdk_42_method_3_code 1 = .ok (.aload_n 1, 1) := by decide +kernel
theorem d3_2 : decode jdk_42_method_3_code 2 = .ok (.iconst 0, 1) := by decide +kernel
theorem d3_3 : decode jdk_42_method_3_code 3 = .ok (.aload_n 1, 1) := by decide +kernel
theorem d3_4 : decode jdk_42_method_3_code 4 = .ok (.arraylength, 1) := by decide +kernel
theorem d3_5 : decode jdk_42_method_3_code 5 = .ok (.aconst_null, 1) := by decide +kernel
theorem d3_6 : decode jdk_42_method_3_code 6 = .ok (.invokespecial 27, 3) := by decide +kernel
theorem pd___CIILjava_lang_Void__V : parseMethodDescriptor "([CIILjava/lang/Void;)V" = some ⟨[(.array .char), .int, .int, (.object "java/lang/Void")], none⟩ := by decide +kernel
theorem d3_9 : decode jdk_42_method_3_code 9 = .ok (.return_, 1) := by decide +kernel
def Q_str_i1_0 (Z : State) (a : Addr) (s' : Addr) (u2 : Value) (ks : ClassId) (h0 : Heap) (n0 : Nat) (v : Option Value) (h : Heap) (L : List Loc) : Prop := v = none ∧ Fr n0 L ∧ Keep h0 h [a] ∧ Str Z h a 0 []
theorem ef_str_i1_0 (m : MethodId) (a : Addr) (s' : Addr)  : entryFrame m #[(.ref a), (.ref s')] 2 = mkF m 0 #[.val (.ref a), .val (.ref s')] [] := by first | (simp [entryFrame, mkF, argsToLocals, Value.category]; done) | rfl
set_option maxRecDepth 65536 in
set_option maxHeartbeats 40000000 in
theorem str_i1_0 (l : Launch) (Z : State) (a0 : Array Value) (hw : ∀ d ∈ tables_1, d.before a0 Z = true) (ws : List Jvm.Cond) (a : Addr) (s' : Addr) (u2 : Value) (ks : ClassId) (h0 : Heap) (n0 : Nat) (Z0 : n0 ≤ h0.size) (E : Exa Z h0 a "java/lang/String") (F : Fld Z h0 a "java/lang/String" "value" "[B" .null) (F2 : Fld Z h0 a "java/lang/String" "coder" "B" u2) (g : n0 ≤ a) (Vs : Arv Z h0 s' ks .char 0 [] (.int 0)) :
    MetFree l (⟨"java/lang/String", "<init>", "([C)V"⟩ : MethodName) (head1 (Jvm.Cond.code (⟨"java/lang/String", "<init>", "([C)V"⟩ : MethodName) jdk_42_method_3_code 2 none :: ws) ({ frames := 2, cells := 4, slots := 8, locals := 29 } : Room)) (fun aa' U1' => aa' = #[(.ref a), (.ref s')] ∧ Z.Warmed39 U1'.vm ∧ U1'.heap = h0 ∧ CHv Z own_EL U1'.vm h0) (fun _ _ _ _ _ => True) (fun _ U1' oo' U2' => ∃ vv' LL', oo' = .returned vv' ∧ (Q_str_i1_0 Z a s' u2 ks h0 n0) vv' U2'.heap LL' ∧ CHr Z own_EL U1'.vm U1'.heap U2'.vm U2'.heap ∧ ReturnedEndW U1' oo' U2' LL' ({ frames := 2, cells := 4, slots := 8, locals := 29 } : Room).cells ({ frames := 2, cells := 4, slots := 8, locals := 29 } : Room).slots) := by
  refine MetFree.of_bodySF (plainFor_of_name pn_java_lang_String) hisR ?_
  intro p e s m args below meth c s₁ Bd hml0 hP hK
  obtain ⟨rfl, hZ, hh, hCH⟩ := hP
  have hx := Bd.exec
  have hby := Bd.bytes
  have hml : c.maxLocals = 2 := hml0
  have hown : s.vm.findClass "java/lang/String" = some m.cls := findClass_of_methodNamed Bd.named
  have hnm := (name_of_methodNamed Bd.named Bd.method).1
  have X0 : Stand p l e ({ frames := 2, cells := 4, slots := 8, locals := 29 } : Room) (s.setVm s.vm) m #[(.ref a), (.ref s')] below meth c s₁ [] 0 0 := Stand.of_body Bd
  have e0 : s₁.heap = h0 := by rw [← hh, Bd.state]; rfl
  have N0 := Fr.nil n0
  have hS : s.Since s.vm 0 := (State.WarmedH.refl s).since 0
  have hh0 := hh
  have hEL := own_EW hw
  have HC0 := CHr.refl hCH
  have lta := own_nlt (E.lt)
  refine go_of (A := s₁.setTop (entryFrame m #[(.ref a), (.ref s')] 2)) (B := s₁.setTop (mkF m 0 #[.val (.ref a), .val (.ref s')] [])) (fun _ kk' => castTop (ef_str_i1_0 m a s') kk') ?_
  refine go_of (B := (s₁.setTop (mkF m 1 #[.val (.ref a), .val (.ref s')] [(.ref a)]))) (fun _ kk => XS.aloadN X0.here hx rfl (hb hby d3_0) rfl rfl kk) ?_
  refine go_of (B := (s₁.setTop (mkF m 2 #[.val (.ref a), .val (.ref s')] [(.ref s'), (.ref a)]))) (fun _ kk => XS.aloadN X0.here hx rfl (hb hby d3_1) rfl rfl kk) ?_
  refine go_of (B := (s₁.setTop (mkF m 3 #[.val (.ref a), .val (.ref s')] [(.int (0 : Int32)), (.ref s'), (.ref a)]))) (fun _ kk => XS.iconst X0.here hx rfl (hb hby d3_2) kk) ?_
  refine go_of (B := (s₁.setTop (mkF m 4 #[.val (.ref a), .val (.ref s')] [(.ref s'), (.int (0 : Int32)), (.ref s'), (.ref a)]))) (fun _ kk => XS.aloadN X0.here hx rfl (hb hby d3_3) rfl rfl kk) ?_
  obtain ⟨cl1, Ar1, q1, Sz1, Nn1, Hh1, G1⟩ := id (Vs)
  have ln1 := len_of Sz1 Nn1
  refine go_of (B := (s₁.setTop (mkF m 5 #[.val (.ref a), .val (.ref s')] [(.int (0 : Int32)), (.int (0 : Int32)), (.ref s'), (.ref a)]))) (fun _ kk => X0.arraylength hx (by rw [e0]; exact Ar1.1) (State.isArrayOf_alike hZ.alike Ar1.2.1) (g := (mkF m 4 #[.val (.ref a), .val (.ref s')] [(.ref s'), (.int (0 : Int32)), (.ref s'), (.ref a)])) rfl rfl (hb hby d3_4) _ (by rw [ln1]; exact kk)) ?_
  refine go_of (B := (s₁.setTop (mkF m 6 #[.val (.ref a), .val (.ref s')] [.null, (.int (0 : Int32)), (.int (0 : Int32)), (.ref s'), (.ref a)]))) (fun _ kk => XS.aconstNull X0.here hx rfl (hb hby d3_5) kk) ?_
  obtain ⟨_, _, ⟨T2, L2, k2, n2⟩, -, X2', hS2', gr2, ⟨Lc2, hQ2, l2, y2, z2, HR2⟩, st2⟩ := X0.specialBackS hx (y := (⟨"java/lang/String", "<init>", "([CIILjava/lang/Void;)V"⟩ : MethodName)) rfl hown (mvT hZ (hw _ (List.mem_of_getElem? (i := 17) rfl))) (mvT hZ (hw _ (List.mem_of_getElem? (i := 18) rfl))) (mvT hZ (hw _ (List.mem_of_getElem? (i := 20) rfl))) (by decide) (backOfSH (W := 0) (str_i4_0 l Z a0 hw [] a s' u2 h0 n0 Z0 E F F2 g) hZ (hw _ (List.mem_of_getElem? (i := 20) rfl)) (hw _ (List.mem_of_getElem? (i := 12) rfl)) (by decide) (by decide) hEL HC0.1) (g := (mkF m 6 #[.val (.ref a), .val (.ref s')] [.null, (.int (0 : Int32)), (.int (0 : Int32)), (.ref s'), (.ref a)])) rfl (by rw [hml]; rfl) (Steps.refl _) (a := a) (argsL := [(.ref s'), (.int (0 : Int32)), (.int (0 : Int32)), .null]) (rest := []) (lenOf pd___CIILjava_lang_Void__V rfl) rfl (by show 2 * 0 + _ ≤ _; exact Nat.le_of_eq rfl) (hb hby d3_6) (fun _ _ => ⟨rfl, e0, (by decide : 0 + 4 ≤ _), (by decide : 0 + 8 ≤ _)⟩)
  dsimp only [Pt.U, Pt.locs, Pt.cells, Pt.slots] at X2' hS2' gr2 l2 y2 z2 st2 hQ2 HR2
  subst l2 y2 z2
  have X2 : Stand _ _ _ _ (s.setVm T2.vm) _ _ _ _ _ T2 _ _ _ := X2'
  have hS : s.Since T2.vm T2.heap.size := foldS hS (by rw [e0]; omega) hS2' gr2
  have hZ : Z.Warmed39 (s.setVm T2.vm).vm := State.Warmed39.trans (t := s.setVm s.vm) hZ hS2'.1
  have hown : (s.setVm T2.vm).vm.findClass "java/lang/String" = some m.cls := by rw [show (s.setVm T2.vm).vm = T2.vm from rfl, hS2'.1.alike.findClass]; exact hown
  obtain ⟨rfl, N2q, K2, S2⟩ := hQ2
  have N2 := Fr.app N0 N2q
  have sz2 := K2.1
  have HC2 := HC0.trans HR2
  refine go_tr (B := (T2.setTop (mkF m 9 #[.val (.ref a), .val (.ref s')] []))) (st2) ?_
  refine go_endH X2 hZ hEL HC2 hh0 rfl hS (by first | omega | exact own_ne (by omega) | exact own_le (by omega) | exact own_lt (by omega)) (v := none) (fun _ => rfl) Bd.notSynchronized (by decide) (by decide) (Q := (Q_str_i1_0 Z a s' u2 ks h0 n0)) ?_ (fun fs hr => X2.returnOut hx Bd.returns (hb hby d3_9) hr)
  show (fun (v : Option Value) (h : Heap) (L : List Loc) => v = none ∧ Fr n0 L ∧ Keep h0 h [a] ∧ Str Z h a 0 []) (none) T2.heap _
  exact ⟨rfl, N2, ((Keep.refl h0 [a]).trans K2 (allS (Or.inl (List.mem_of_getElem? (i := 0) rfl)) all0)), S2⟩
theorem d14_0 : decode jdk_52_method_21_code 0 = .ok (.iconst 0, 1) := by decide +kernel
theorem d14_1 : decode jdk_52_method_21_code 1 = .ok (.istore 5, 2) := by decide +kernel
theorem d14_3 : decode jdk_52_method_21_code 3 = .ok (.iload 5, 2) := by decide +kernel
theorem d14_5 : decode jdk_52_method_21_code 5 = .ok (.iload 4, 2) := by decide +kernel
theorem d14_7 : decode jdk_52_method_21_code 7 = .ok (.if_icmp .ge 37, 3) := by decide +kernel
theorem d14_10 : decode jdk_52_method_21_code 10 = .ok (.aload_n 0, 1) := by decide +kernel
theorem d14_11 : decode jdk_52_method_21_code 11 = .ok (.iload_n 1, 1) := by decide +kernel
theorem d14_12 : decode jdk_52_method_21_code 12 = .ok (.caload, 1) := by decide +kernel
theorem d14_13 : decode jdk_52_method_21_code 13 = .ok (.istore 6, 2) := by decide +kernel
theorem d14_15 : decode jdk_52_method_21_code 15 = .ok (.iload 6, 2) := by decide +kernel
theorem d14_17 : decode jdk_52_method_21_code 17 = .ok (.sipush 255, 3) := by decide +kernel
theorem d14_20 : decode jdk_52_method_21_code 20 = .ok (.if_icmp .le 6, 3) := by decide +kernel
theorem d14_26 : decode jdk_52_method_21_code 26 = .ok (.aload_n 2, 1) := by decide +kernel
theorem d14_27 : decode jdk_52_method_21_code 27 = .ok (.iload_n 3, 1) := by decide +kernel
theorem d14_28 : decode jdk_52_method_21_code 28 = .ok (.iload 6, 2) := by decide +kernel
theorem d14_30 : decode jdk_52_method_21_code 30 = .ok (.i2b, 1) := by decide +kernel
theorem d14_31 : decode jdk_52_method_21_code 31 = .ok (.bastore, 1) := by decide +kernel
theorem d14_32 : decode jdk_52_method_21_code 32 = .ok (.iinc 1 1, 3) := by decide +kernel
theorem d14_35 : decode jdk_52_method_21_code 35 = .ok (.iinc 3 1, 3) := by decide +kernel
theorem d14_38 : decode jdk_52_method_21_code 38 = .ok (.iinc 5 1, 3) := by decide +kernel
theorem d14_41 : decode jdk_52_method_21_code 41 = .ok (.goto (-38), 3) := by decide +kernel
theorem d14_44 : decode jdk_52_method_21_code 44 = .ok (.iload 4, 2) := by decide +kernel
theorem d14_46 : decode jdk_52_method_21_code 46 = .ok (.ireturn, 1) := by decide +kernel
def Q_str_c5_1 (Z : State) (s' : Addr) (d : Addr) (c0 : Int32) (ks : ClassId) (kd : ClassId) (h0 : Heap) (n0 : Nat) (v : Option Value) (h : Heap) (L : List Loc) : Prop := v = some (.int 1) ∧ Fr n0 L ∧ Keep h0 h [d] ∧ Arv Z h d kd .byte 1 [(.int (own_b8 c0))] (.int 0)
theorem pn_java_lang_StringUTF16 : plainName "java/lang/StringUTF16" = true := by first | (simp [plainName, overriddenIn]; done) | decide +kernel
theorem ef_str_c5_1 (m : MethodId) (s' : Addr) (d : Addr)  : entryFrame m #[(.ref s'), (.int (0 : Int32)), (.ref d), (.int (0 : Int32)), (.int (1 : Int32))] 7 = mkF m 0 #[.val (.ref s'), .val (.int (0 : Int32)), .val (.ref d), .val (.int (0 : Int32)), .val (.int (1 : Int32)), .unset, .unset] [] := by first | (simp [entryFrame, mkF, argsToLocals, Value.category]; done) | rfl
set_option maxRecDepth 65536 in
set_option maxHeartbeats 40000000 in
theorem str_c5_1 (l : Launch) (Z : State) (a0 : Array Value) (hw : ∀ d ∈ tables_1, d.before a0 Z = true) (ws : List Jvm.Cond) (s' : Addr) (d : Addr) (c0 : Int32) (ks : ClassId) (kd : ClassId) (h0 : Heap) (n0 : Nat) (Z0 : n0 ≤ h0.size) (Vs : Arv Z h0 s' ks .char 1 [(.int c0)] (.int 0)) (Vd : Arv Z h0 d kd .byte 1 [(.int 0)] (.int 0)) (nsd : s' ≠ d) (g : n0 ≤ d) (hc0 : ¬ c0 < 0 ∧ ¬ (255 : Int32) < c0) :
    MetFree l (⟨"java/lang/StringUTF16", "compress", "([CI[BII)I"⟩ : MethodName) (head1 (Jvm.Cond.code (⟨"java/lang/StringUTF16", "compress", "([CI[BII)I"⟩ : MethodName) jdk_52_method_21_code 7 (some .int) :: ws) ({ frames := 0, cells := 0, slots := 0, locals := 0 } : Room)) (fun aa' U1' => aa' = #[(.ref s'), (.int (0 : Int32)), (.ref d), (.int (0 : Int32)), (.int (1 : Int32))] ∧ Z.Warmed39 U1'.vm ∧ U1'.heap = h0) (fun _ _ _ _ _ => True) (fun _ U1' oo' U2' => ∃ vv' LL', oo' = .returned vv' ∧ (Q_str_c5_1 Z s' d c0 ks kd h0 n0) vv' U2'.heap LL' ∧ FrameEnd U1' oo' U2' LL' ({ frames := 0, cells := 0, slots := 0, locals := 0 } : Room).cells ({ frames := 0, cells := 0, slots := 0, locals := 0 } : Room).slots) := by
  refine MetFree.of_bodySF (plainFor_of_name pn_java_lang_StringUTF16) hisR ?_
  intro p e s m args below meth c s₁ Bd hml0 hP hK
  obtain ⟨rfl, hZ, hh⟩ := hP
  have hx := Bd.exec
  have hby := Bd.bytes
  have hml : c.maxLocals = 7 := hml0
  have hown : s.vm.findClass "java/lang/StringUTF16" = some m.cls := findClass_of_methodNamed Bd.named
  have hnm := (name_of_methodNamed Bd.named Bd.method).1
  have X0 : Stand p l e ({ frames := 0, cells := 0, slots := 0, locals := 0 } : Room) s m #[(.ref s'), (.int (0 : Int32)), (.ref d), (.int (0 : Int32)), (.int (1 : Int32))] below meth c s₁ [] 0 0 := Stand.of_body Bd
  have e0 : s₁.heap = h0 := by rw [← hh, Bd.state]; rfl
  have N0 := Fr.nil n0
  have lts := own_nlt (Vs.lt)
  have ltd := own_nlt (Vd.lt)
  refine go_of (A := s₁.setTop (entryFrame m #[(.ref s'), (.int (0 : Int32)), (.ref d), (.int (0 : Int32)), (.int (1 : Int32))] 7)) (B := s₁.setTop (mkF m 0 #[.val (.ref s'), .val (.int (0 : Int32)), .val (.ref d), .val (.int (0 : Int32)), .val (.int (1 : Int32)), .unset, .unset] [])) (fun _ kk' => castTop (ef_str_c5_1 m s' d) kk') ?_
  refine go_of (B := (s₁.setTop (mkF m 1 #[.val (.ref s'), .val (.int (0 : Int32)), .val (.ref d), .val (.int (0 : Int32)), .val (.int (1 : Int32)), .unset, .unset] [(.int (0 : Int32))]))) (fun _ kk => XS.iconst X0.here hx rfl (hb hby d14_0) kk) ?_
  refine go_of (B := (s₁.setTop (mkF m 3 #[.val (.ref s'), .val (.int (0 : Int32)), .val (.ref d), .val (.int (0 : Int32)), .val (.int (1 : Int32)), .val (.int (0 : Int32)), .unset] []))) (fun _ kk => XS.istore X0.here hx rfl (hb hby d14_1) rfl rfl kk) ?_
  refine go_of (B := (s₁.setTop (mkF m 5 #[.val (.ref s'), .val (.int (0 : Int32)), .val (.ref d), .val (.int (0 : Int32)), .val (.int (1 : Int32)), .val (.int (0 : Int32)), .unset] [(.int (0 : Int32))]))) (fun _ kk => XS.iload X0.here hx rfl (hb hby d14_3) rfl kk) ?_
  refine go_of (B := (s₁.setTop (mkF m 7 #[.val (.ref s'), .val (.int (0 : Int32)), .val (.ref d), .val (.int (0 : Int32)), .val (.int (1 : Int32)), .val (.int (0 : Int32)), .unset] [(.int (1 : Int32)), (.int (0 : Int32))]))) (fun _ kk => XS.iload X0.here hx rfl (hb hby d14_5) rfl kk) ?_
  refine go_of (B := (s₁.setTop (mkF m 10 #[.val (.ref s'), .val (.int (0 : Int32)), .val (.ref d), .val (.int (0 : Int32)), .val (.int (1 : Int32)), .val (.int (0 : Int32)), .unset] []))) (fun _ kk => XS.icmpNo X0.here hx rfl (hb hby d14_7) rfl (tlt (by decide : (0 : Int32) < (1 : Int32))).2.1 kk) ?_
  refine go_of (B := (s₁.setTop (mkF m 11 #[.val (.ref s'), .val (.int (0 : Int32)), .val (.ref d), .val (.int (0 : Int32)), .val (.int (1 : Int32)), .val (.int (0 : Int32)), .unset] [(.ref s')]))) (fun _ kk => XS.aloadN X0.here hx rfl (hb hby d14_10) rfl rfl kk) ?_
  refine go_of (B := (s₁.setTop (mkF m 12 #[.val (.ref s'), .val (.int (0 : Int32)), .val (.ref d), .val (.int (0 : Int32)), .val (.int (1 : Int32)), .val (.int (0 : Int32)), .unset] [(.int (0 : Int32)), (.ref s')]))) (fun _ kk => XS.iloadN X0.here hx rfl (hb hby d14_11) rfl kk) ?_
  obtain ⟨cl1, Ar1, q1, Sz1, Nn1, Hh1, G1⟩ := id (Vs)
  refine go_of (B := (s₁.setTop (mkF m 13 #[.val (.ref s'), .val (.int (0 : Int32)), .val (.ref d), .val (.int (0 : Int32)), .val (.int (1 : Int32)), .val (.int (0 : Int32)), .unset] [(.int c0)]))) (fun _ kk => X0.caload hx (j := (0 : Int32)) (v := (.int c0)) (by rw [e0]; exact Ar1.1) (State.isArrayOf_alike hZ.alike Ar1.2.1) Ar1.2.2 (inb_of Sz1 ⟨by decide, by decide⟩) (Hh1.at (inb_of Sz1 ⟨by decide, by decide⟩) rfl) (g := (mkF m 12 #[.val (.ref s'), .val (.int (0 : Int32)), .val (.ref d), .val (.int (0 : Int32)), .val (.int (1 : Int32)), .val (.int (0 : Int32)), .unset] [(.int (0 : Int32)), (.ref s')])) rfl rfl (hb hby d14_12) _ kk) ?_
  refine go_of (B := (s₁.setTop (mkF m 15 #[.val (.ref s'), .val (.int (0 : Int32)), .val (.ref d), .val (.int (0 : Int32)), .val (.int (1 : Int32)), .val (.int (0 : Int32)), .val (.int c0)] []))) (fun _ kk => XS.istore X0.here hx rfl (hb hby d14_13) rfl rfl kk) ?_
  refine go_of (B := (s₁.setTop (mkF m 17 #[.val (.ref s'), .val (.int (0 : Int32)), .val (.ref d), .val (.int (0 : Int32)), .val (.int (1 : Int32)), .val (.int (0 : Int32)), .val (.int c0)] [(.int c0)]))) (fun _ kk => XS.iload X0.here hx rfl (hb hby d14_15) rfl kk) ?_
  refine go_of (B := (s₁.setTop (mkF m 20 #[.val (.ref s'), .val (.int (0 : Int32)), .val (.ref d), .val (.int (0 : Int32)), .val (.int (1 : Int32)), .val (.int (0 : Int32)), .val (.int c0)] [(.int (255 : Int32)), (.int c0)]))) (fun _ kk => XS.sipush X0.here hx rfl (hb hby d14_17) kk) ?_
  refine go_of (B := (s₁.setTop (mkF m 26 #[.val (.ref s'), .val (.int (0 : Int32)), .val (.ref d), .val (.int (0 : Int32)), .val (.int (1 : Int32)), .val (.int (0 : Int32)), .val (.int c0)] []))) (fun _ kk => XS.icmpYes X0.here hx rfl (pc0 := 20) (pc' := 26) rfl (hb hby d14_20) rfl (flt hc0.2).2.2.2 (by decide) (by decide) kk) ?_
  refine go_of (B := (s₁.setTop (mkF m 27 #[.val (.ref s'), .val (.int (0 : Int32)), .val (.ref d), .val (.int (0 : Int32)), .val (.int (1 : Int32)), .val (.int (0 : Int32)), .val (.int c0)] [(.ref d)]))) (fun _ kk => XS.aloadN X0.here hx rfl (hb hby d14_26) rfl rfl kk) ?_
  refine go_of (B := (s₁.setTop (mkF m 28 #[.val (.ref s'), .val (.int (0 : Int32)), .val (.ref d), .val (.int (0 : Int32)), .val (.int (1 : Int32)), .val (.int (0 : Int32)), .val (.int c0)] [(.int (0 : Int32)), (.ref d)]))) (fun _ kk => XS.iloadN X0.here hx rfl (hb hby d14_27) rfl kk) ?_
  refine go_of (B := (s₁.setTop (mkF m 30 #[.val (.ref s'), .val (.int (0 : Int32)), .val (.ref d), .val (.int (0 : Int32)), .val (.int (1 : Int32)), .val (.int (0 : Int32)), .val (.int c0)] [(.int c0), (.int (0 : Int32)), (.ref d)]))) (fun _ kk => XS.iload X0.here hx rfl (hb hby d14_28) rfl kk) ?_
  refine go_of (B := (s₁.setTop (mkF m 31 #[.val (.ref s'), .val (.int (0 : Int32)), .val (.ref d), .val (.int (0 : Int32)), .val (.int (1 : Int32)), .val (.int (0 : Int32)), .val (.int c0)] [(.int (c0.toInt8.toInt32)), (.int (0 : Int32)), (.ref d)]))) (fun _ kk => XS.i2b X0.here hx rfl (hb hby d14_30) rfl kk) ?_
  obtain ⟨cl2, Ar2, q2, Sz2, Nn2, Hh2, G2⟩ := id (Vd)
  obtain ⟨T3, h3, X3, e3, W3, st3⟩ := stB X0 hx hZ e0 Ar2 (j := (0 : Int32)) (inb_of Sz2 ⟨by decide, by decide⟩) (g := (mkF m 31 #[.val (.ref s'), .val (.int (0 : Int32)), .val (.ref d), .val (.int (0 : Int32)), .val (.int (1 : Int32)), .val (.int (0 : Int32)), .val (.int c0)] [(.int (c0.toInt8.toInt32)), (.int (0 : Int32)), (.ref d)])) rfl rfl (hb hby d14_31)
  have sz3 := W3.size
  have N3 := Fr.snoc X3 N0 (g : n0 ≤ d)
  have V3 : Arv Z h3 d kd .byte (1 : Int32) [(.int ((c0.toInt8.toInt32).toInt8.toInt32))] (.int (0 : Int32)) := Arv.set Ar2 q2 Sz2 Nn2 Hh2 G2 (fits_nar_byte _) W3 0 rfl (Nat.le_of_ble_eq_true rfl)
  rw [own_bb] at V3
  refine go_of (B := (T3.setTop (mkF m 32 #[.val (.ref s'), .val (.int (0 : Int32)), .val (.ref d), .val (.int (0 : Int32)), .val (.int (1 : Int32)), .val (.int (0 : Int32)), .val (.int c0)] []))) (st3) ?_
  refine go_of (B := (T3.setTop (mkF m 35 #[.val (.ref s'), .val (.int (1 : Int32)), .val (.ref d), .val (.int (0 : Int32)), .val (.int (1 : Int32)), .val (.int (0 : Int32)), .val (.int c0)] []))) (fun _ kk => XS.iinc X3.here hx rfl (hb hby d14_32) rfl rfl kk) ?_
  refine go_of (B := (T3.setTop (mkF m 38 #[.val (.ref s'), .val (.int (1 : Int32)), .val (.ref d), .val (.int (1 : Int32)), .val (.int (1 : Int32)), .val (.int (0 : Int32)), .val (.int c0)] []))) (fun _ kk => XS.iinc X3.here hx rfl (hb hby d14_35) rfl rfl kk) ?_
  refine go_of (B := (T3.setTop (mkF m 41 #[.val (.ref s'), .val (.int (1 : Int32)), .val (.ref d), .val (.int (1 : Int32)), .val (.int (1 : Int32)), .val (.int (1 : Int32)), .val (.int c0)] []))) (fun _ kk => XS.iinc X3.here hx rfl (hb hby d14_38) rfl rfl kk) ?_
  refine go_of (B := (T3.setTop (mkF m 3 #[.val (.ref s'), .val (.int (1 : Int32)), .val (.ref d), .val (.int (1 : Int32)), .val (.int (1 : Int32)), .val (.int (1 : Int32)), .val (.int c0)] []))) (fun _ kk => XS.goto X3.here hx rfl (pc0 := 41) (pc' := 3) rfl (hb hby d14_41) (by decide) (by decide) kk) ?_
  refine go_of (B := (T3.setTop (mkF m 5 #[.val (.ref s'), .val (.int (1 : Int32)), .val (.ref d), .val (.int (1 : Int32)), .val (.int (1 : Int32)), .val (.int (1 : Int32)), .val (.int c0)] [(.int (1 : Int32))]))) (fun _ kk => XS.iload X3.here hx rfl (hb hby d14_3) rfl kk) ?_
  refine go_of (B := (T3.setTop (mkF m 7 #[.val (.ref s'), .val (.int (1 : Int32)), .val (.ref d), .val (.int (1 : Int32)), .val (.int (1 : Int32)), .val (.int (1 : Int32)), .val (.int c0)] [(.int (1 : Int32)), (.int (1 : Int32))]))) (fun _ kk => XS.iload X3.here hx rfl (hb hby d14_5) rfl kk) ?_
  refine go_of (B := (T3.setTop (mkF m 44 #[.val (.ref s'), .val (.int (1 : Int32)), .val (.ref d), .val (.int (1 : Int32)), .val (.int (1 : Int32)), .val (.int (1 : Int32)), .val (.int c0)] []))) (fun _ kk => XS.icmpYes X3.here hx rfl (pc0 := 7) (pc' := 44) rfl (hb hby d14_7) rfl (flt (by decide : ¬ ((1 : Int32) < (1 : Int32)))).2.1 (by decide) (by decide) kk) ?_
  refine go_of (B := (T3.setTop (mkF m 46 #[.val (.ref s'), .val (.int (1 : Int32)), .val (.ref d), .val (.int (1 : Int32)), .val (.int (1 : Int32)), .val (.int (1 : Int32)), .val (.int c0)] [(.int (1 : Int32))]))) (fun _ kk => XS.iload X3.here hx rfl (hb hby d14_44) rfl kk) ?_
  refine go_end X3 (v := some (.int (1 : Int32))) (fun h => by rw [Bd.returns] at h; cases h) Bd.notSynchronized (by decide) (by decide) (Q := (Q_str_c5_1 Z s' d c0 ks kd h0 n0)) ?_ (fun fs hr => own_retI X3 hx Bd.returns (hb hby d14_46) hr)
  show (fun (v : Option Value) (h : Heap) (L : List Loc) => v = some (.int 1) ∧ Fr n0 L ∧ Keep h0 h [d] ∧ Arv Z h d kd .byte 1 [(.int (own_b8 c0))] (.int 0)) (some (.int (1 : Int32))) T3.heap _
  rw [e3]
  exact ⟨rfl, N3, ((Keep.refl h0 [d]).wr W3 (Or.inl (List.mem_of_getElem? (i := 0) rfl))), V3⟩
theorem d13_0 : decode jdk_52_method_16_code 0 = .ok (.iload_n 2, 1) := by decide +kernel
theorem d13_1 : decode jdk_52_method_16_code 1 = .ok (.newarray .byte, 2) := by decide +kernel
theorem d13_3 : decode jdk_52_method_16_code 3 = .ok (.astore_n 3, 1) := by decide +kernel
theorem d13_4 : decode jdk_52_method_16_code 4 = .ok (.aload_n 0, 1) := by decide +kernel
theorem d13_5 : decode jdk_52_method_16_code 5 = .ok (.iload_n 1, 1) := by decide +kernel
theorem d13_6 : decode jdk_52_method_16_code 6 = .ok (.aload_n 3, 1) := by decide +kernel
theorem d13_7 : decode jdk_52_method_16_code 7 = .ok (.iconst 0, 1) := by decide +kernel
theorem d13_8 : decode jdk_52_method_16_code 8 = .ok (.iload_n 2, 1) := by decide +kernel
theorem d13_9 : decode jdk_52_method_16_code 9 = .ok (.invokestatic 115, 3) := by decide +kernel
theorem pd___CI_BII_I : parseMethodDescriptor "([CI[BII)I" = some ⟨[(.array .char), .int, (.array .byte), .int, .int], some .int⟩ := by decide +kernel
theorem d13_12 : decode jdk_52_method_16_code 12 = .ok (.istore 4, 2) := by decide +kernel
theorem d13_14 : decode jdk_52_method_16_code 14 = .ok (.iload 4, 2) := by decide +kernel
theorem d13_16 : decode jdk_52_method_16_code 16 = .ok (.iload_n 2, 1) := by decide +kernel
theorem d13_17 : decode jdk_52_method_16_code 17 = .ok (.if_icmp .eq 40, 3) := by decide +kernel
theorem d13_57 : decode jdk_52_method_16_code 57 = .ok (.aload_n 3, 1) := by decide +kernel
theorem d13_58 : decode jdk_52_method_16_code 58 = .ok (.areturn, 1) := by decide +kernel
def Q_str_c3_1 (Z : State) (s' : Addr) (c0 : Int32) (ks : ClassId) (h0 : Heap) (n0 : Nat) (v : Option Value) (h : Heap) (L : List Loc) : Prop := ∃ (t : Addr) (k : ClassId), v = some (.ref t) ∧ Fr n0 L ∧ h0.size ≤ t ∧ Keep h0 h [] ∧ Arv Z h t k .byte 1 [(.int (own_b8 c0))] (.int 0)
theorem ef_str_c3_1 (m : MethodId) (s' : Addr)  : entryFrame m #[(.ref s'), (.int (0 : Int32)), (.int (1 : Int32))] 6 = mkF m 0 #[.val (.ref s'), .val (.int (0 : Int32)), .val (.int (1 : Int32)), .unset, .unset, .unset] [] := by first | (simp [entryFrame, mkF, argsToLocals, Value.category]; done) | rfl
set_option maxRecDepth 65536 in
set_option maxHeartbeats 40000000 in
theorem str_c3_1 (l : Launch) (Z : State) (a0 : Array Value) (hw : ∀ d ∈ tables_1, d.before a0 Z = true) (ws : List Jvm.Cond) (s' : Addr) (c0 : Int32) (ks : ClassId) (h0 : Heap) (n0 : Nat) (Z0 : n0 ≤ h0.size) (Vs : Arv Z h0 s' ks .char 1 [(.int c0)] (.int 0)) (hc0 : ¬ c0 < 0 ∧ ¬ (255 : Int32) < c0) :
    MetFree l (⟨"java/lang/StringUTF16", "compress", "([CII)[B"⟩ : MethodName) (head1 (Jvm.Cond.code (⟨"java/lang/StringUTF16", "compress", "([CII)[B"⟩ : MethodName) jdk_52_method_16_code 6 (some (.array .byte)) :: ws) ({ frames := 1, cells := 1, slots := 1, locals := 18 } : Room)) (fun aa' U1' => aa' = #[(.ref s'), (.int (0 : Int32)), (.int (1 : Int32))] ∧ Z.Warmed39 U1'.vm ∧ U1'.heap = h0) (fun _ _ _ _ _ => True) (fun _ U1' oo' U2' => ∃ vv' LL', oo' = .returned vv' ∧ (Q_str_c3_1 Z s' c0 ks h0 n0) vv' U2'.heap LL' ∧ FrameEnd U1' oo' U2' LL' ({ frames := 1, cells := 1, slots := 1, locals := 18 } : Room).cells ({ frames := 1, cells := 1, slots := 1, locals := 18 } : Room).slots) := by
  refine MetFree.of_bodySF (plainFor_of_name pn_java_lang_StringUTF16) hisR ?_
  intro p e s m args below meth c s₁ Bd hml0 hP hK
  obtain ⟨rfl, hZ, hh⟩ := hP
  have hx := Bd.exec
  have hby := Bd.bytes
  have hml : c.maxLocals = 6 := hml0
  have hown : s.vm.findClass "java/lang/StringUTF16" = some m.cls := findClass_of_methodNamed Bd.named
  have hnm := (name_of_methodNamed Bd.named Bd.method).1
  have X0 : Stand p l e ({ frames := 1, cells := 1, slots := 1, locals := 18 } : Room) s m #[(.ref s'), (.int (0 : Int32)), (.int (1 : Int32))] below meth c s₁ [] 0 0 := Stand.of_body Bd
  have e0 : s₁.heap = h0 := by rw [← hh, Bd.state]; rfl
  have N0 := Fr.nil n0
  have lts := own_nlt (Vs.lt)
  refine go_of (A := s₁.setTop (entryFrame m #[(.ref s'), (.int (0 : Int32)), (.int (1 : Int32))] 6)) (B := s₁.setTop (mkF m 0 #[.val (.ref s'), .val (.int (0 : Int32)), .val (.int (1 : Int32)), .unset, .unset, .unset] [])) (fun _ kk' => castTop (ef_str_c3_1 m s') kk') ?_
  refine go_of (B := (s₁.setTop (mkF m 1 #[.val (.ref s'), .val (.int (0 : Int32)), .val (.int (1 : Int32)), .unset, .unset, .unset] [(.int (1 : Int32))]))) (fun _ kk => XS.iloadN X0.here hx rfl (hb hby d13_0) rfl kk) ?_
  obtain ⟨T1, h1, k1, X1, e1, E1, A1, st1⟩ := newP X0 hx hZ (hw _ (List.mem_of_getElem? (i := 25) rfl)) e0 (g := (mkF m 1 #[.val (.ref s'), .val (.int (0 : Int32)), .val (.int (1 : Int32)), .unset, .unset, .unset] [(.int (1 : Int32))])) rfl (hb hby d13_1) rfl (by decide) (cap := 1) (by decide) (by decide) (by decide) (by decide)
  obtain ⟨b1, g1⟩ : ∃ z, z = h0.size := ⟨_, rfl⟩
  rw [← g1] at A1 st1
  have hi1 := own_nlt A1.lt
  have sz1 := E1.1
  have V1 : Arv Z h1 b1 k1 .byte (1 : Int32) [(.int (0 : Int32))] (.int (0 : Int32)) := (Arv.new A1 (by decide)).pad (pad_rep [] (.int (0 : Int32)) 1)
  refine go_of (B := (T1.setTop (mkF m 3 #[.val (.ref s'), .val (.int (0 : Int32)), .val (.int (1 : Int32)), .unset, .unset, .unset] [(.ref b1)]))) (st1) ?_
  refine go_of (B := (T1.setTop (mkF m 4 #[.val (.ref s'), .val (.int (0 : Int32)), .val (.int (1 : Int32)), .val (.ref b1), .unset, .unset] []))) (fun _ kk => XS.astoreN X1.here hx rfl (hb hby d13_3) rfl rfl rfl kk) ?_
  refine go_of (B := (T1.setTop (mkF m 5 #[.val (.ref s'), .val (.int (0 : Int32)), .val (.int (1 : Int32)), .val (.ref b1), .unset, .unset] [(.ref s')]))) (fun _ kk => XS.aloadN X1.here hx rfl (hb hby d13_4) rfl rfl kk) ?_
  refine go_of (B := (T1.setTop (mkF m 6 #[.val (.ref s'), .val (.int (0 : Int32)), .val (.int (1 : Int32)), .val (.ref b1), .unset, .unset] [(.int (0 : Int32)), (.ref s')]))) (fun _ kk => XS.iloadN X1.here hx rfl (hb hby d13_5) rfl kk) ?_
  refine go_of (B := (T1.setTop (mkF m 7 #[.val (.ref s'), .val (.int (0 : Int32)), .val (.int (1 : Int32)), .val (.ref b1), .unset, .unset] [(.ref b1), (.int (0 : Int32)), (.ref s')]))) (fun _ kk => XS.aloadN X1.here hx rfl (hb hby d13_6) rfl rfl kk) ?_
  refine go_of (B := (T1.setTop (mkF m 8 #[.val (.ref s'), .val (.int (0 : Int32)), .val (.int (1 : Int32)), .val (.ref b1), .unset, .unset] [(.int (0 : Int32)), (.ref b1), (.int (0 : Int32)), (.ref s')]))) (fun _ kk => XS.iconst X1.here hx rfl (hb hby d13_7) kk) ?_
  refine go_of (B := (T1.setTop (mkF m 9 #[.val (.ref s'), .val (.int (0 : Int32)), .val (.int (1 : Int32)), .val (.ref b1), .unset, .unset] [(.int (1 : Int32)), (.int (0 : Int32)), (.ref b1), (.int (0 : Int32)), (.ref s')]))) (fun _ kk => XS.iloadN X1.here hx rfl (hb hby d13_8) rfl kk) ?_
  have cf_2 := (Vs.ext E1)
  obtain ⟨_, _, ⟨T3, L3, k3, n3⟩, -, X3, ⟨Lc3, hQ3, l3, y3, z3⟩, st3⟩ := Jvm.LawKit.callS X1 hx (y := (⟨"java/lang/StringUTF16", "compress", "([CI[BII)I"⟩ : MethodName)) hown (mvT hZ (hw _ (List.mem_of_getElem? (i := 92) rfl))) (mvT hZ (hw _ (List.mem_of_getElem? (i := 93) rfl))) (mvT hZ (hw _ (List.mem_of_getElem? (i := 90) rfl))) (mvT hZ (hw _ (List.mem_of_getElem? (i := 94) rfl))) (by decide) (backOf (W := 0) (str_c5_1 l Z a0 hw [] s' b1 c0 ks k1 h1 n0 (by first | omega | exact own_ne (by omega) | exact own_le (by omega) | exact own_lt (by omega)) cf_2 V1 (by first | omega | exact own_ne (by omega) | exact own_le (by omega) | exact own_lt (by omega)) (by first | omega | exact own_ne (by omega) | exact own_le (by omega) | exact own_lt (by omega)) hc0) hZ (hw _ (List.mem_of_getElem? (i := 94) rfl)) (hw _ (List.mem_of_getElem? (i := 90) rfl)) (by decide) (by decide)) (g := (mkF m 9 #[.val (.ref s'), .val (.int (0 : Int32)), .val (.int (1 : Int32)), .val (.ref b1), .unset, .unset] [(.int (1 : Int32)), (.int (0 : Int32)), (.ref b1), (.int (0 : Int32)), (.ref s')])) rfl (by rw [hml]; rfl) (argsL := [(.ref s'), (.int (0 : Int32)), (.ref b1), (.int (0 : Int32)), (.int (1 : Int32))]) (rest := []) (lenOf pd___CI_BII_I rfl) rfl (by show 2 * 0 + _ ≤ _; exact Nat.le_of_eq rfl) (hb hby d13_9) (fun _ _ => ⟨rfl, e1, (by decide : 1 + 0 ≤ _), (by decide : 1 + 0 ≤ _)⟩)
  dsimp only [Pt.U, Pt.locs, Pt.cells, Pt.slots] at X3 l3 y3 z3 st3 hQ3
  subst l3 y3 z3
  obtain ⟨rfl, N3q, K3, V3⟩ := hQ3
  have N3 := Fr.app N0 N3q
  have sz3 := K3.1
  refine go_of (B := (T3.setTop (mkF m 12 #[.val (.ref s'), .val (.int (0 : Int32)), .val (.int (1 : Int32)), .val (.ref b1), .unset, .unset] [(.int (1 : Int32))]))) (st3) ?_
  refine go_of (B := (T3.setTop (mkF m 14 #[.val (.ref s'), .val (.int (0 : Int32)), .val (.int (1 : Int32)), .val (.ref b1), .val (.int (1 : Int32)), .unset] []))) (fun _ kk => XS.istore X3.here hx rfl (hb hby d13_12) rfl rfl kk) ?_
  refine go_of (B := (T3.setTop (mkF m 16 #[.val (.ref s'), .val (.int (0 : Int32)), .val (.int (1 : Int32)), .val (.ref b1), .val (.int (1 : Int32)), .unset] [(.int (1 : Int32))]))) (fun _ kk => XS.iload X3.here hx rfl (hb hby d13_14) rfl kk) ?_
  refine go_of (B := (T3.setTop (mkF m 17 #[.val (.ref s'), .val (.int (0 : Int32)), .val (.int (1 : Int32)), .val (.ref b1), .val (.int (1 : Int32)), .unset] [(.int (1 : Int32)), (.int (1 : Int32))]))) (fun _ kk => XS.iloadN X3.here hx rfl (hb hby d13_16) rfl kk) ?_
  refine go_of (B := (T3.setTop (mkF m 57 #[.val (.ref s'), .val (.int (0 : Int32)), .val (.int (1 : Int32)), .val (.ref b1), .val (.int (1 : Int32)), .unset] []))) (fun _ kk => XS.icmpYes X3.here hx rfl (pc0 := 17) (pc' := 57) rfl (hb hby d13_17) rfl (teq (by decide : (1 : Int32) = (1 : Int32))).1 (by decide) (by decide) kk) ?_
  refine go_of (B := (T3.setTop (mkF m 58 #[.val (.ref s'), .val (.int (0 : Int32)), .val (.int (1 : Int32)), .val (.ref b1), .val (.int (1 : Int32)), .unset] [(.ref b1)]))) (fun _ kk => XS.aloadN X3.here hx rfl (hb hby d13_57) rfl rfl kk) ?_
  refine go_end X3 (v := some (.ref b1)) (fun h => by rw [Bd.returns] at h; cases h) Bd.notSynchronized (by decide) (by decide) (Q := (Q_str_c3_1 Z s' c0 ks h0 n0)) ?_ (fun fs hr => own_retA X3 hx Bd.returns rfl rfl (hb hby d13_58) hr)
  show (fun (v : Option Value) (h : Heap) (L : List Loc) => ∃ (t : Addr) (k : ClassId), v = some (.ref t) ∧ Fr n0 L ∧ h0.size ≤ t ∧ Keep h0 h [] ∧ Arv Z h t k .byte 1 [(.int (own_b8 c0))] (.int 0)) (some (.ref b1)) T3.heap _
  exact ⟨b1, k1, rfl, N3, by omega, (((Keep.refl h0 []).ext E1).trans K3 (allS (Or.inr (by first | omega | exact own_ne (by omega) | exact own_le (by omega) | exact own_lt (by omega))) all0)), V3⟩
theorem d15_0 : decode jdk_52_method_15_code 0 = .ok (.iload_n 1, 1) := by decide +kernel
theorem d15_1 : decode jdk_52_method_15_code 1 = .ok (.aload_n 0, 1) := by decide +kernel
theorem d15_2 : decode jdk_52_method_15_code 2 = .ok (.arraylength, 1) := by decide +kernel
theorem d15_3 : decode jdk_52_method_15_code 3 = .ok (.isub, 1) := by decide +kernel
theorem d15_4 : decode jdk_52_method_15_code 4 = .ok (.bipush 31, 2) := by decide +kernel
theorem d15_6 : decode jdk_52_method_15_code 6 = .ok (.iushr, 1) := by decide +kernel
theorem d15_7 : decode jdk_52_method_15_code 7 = .ok (.i2b, 1) := by decide +kernel
theorem d15_8 : decode jdk_52_method_15_code 8 = .ok (.ireturn, 1) := by decide +kernel
def Q_str_cf_1 (Z : State) (t : Addr) (k : ClassId) (vs : List Value) (h0 : Heap) (n0 : Nat) (v : Option Value) (h : Heap) (L : List Loc) : Prop := v = some (.int 0) ∧ Fr n0 L ∧ h = h0
theorem ef_str_cf_1 (m : MethodId) (t : Addr)  : entryFrame m #[(.ref t), (.int (1 : Int32))] 2 = mkF m 0 #[.val (.ref t), .val (.int (1 : Int32))] [] := by first | (simp [entryFrame, mkF, argsToLocals, Value.category]; done) | rfl
set_option maxRecDepth 65536 in
set_option maxHeartbeats 40000000 in
theorem str_cf_1 (l : Launch) (Z : State) (a0 : Array Value) (hw : ∀ d ∈ tables_1, d.before a0 Z = true) (ws : List Jvm.Cond) (t : Addr) (k : ClassId) (vs : List Value) (h0 : Heap) (n0 : Nat) (Z0 : n0 ≤ h0.size) (V : Arv Z h0 t k .byte 1 vs (.int 0)) :
    MetFree l (⟨"java/lang/StringUTF16", "coderFromArrayLen", "([BI)B"⟩ : MethodName) (head1 (Jvm.Cond.code (⟨"java/lang/StringUTF16", "coderFromArrayLen", "([BI)B"⟩ : MethodName) jdk_52_method_15_code 2 (some .byte) :: ws) ({ frames := 0, cells := 0, slots := 0, locals := 0 } : Room)) (fun aa' U1' => aa' = #[(.ref t), (.int (1 : Int32))] ∧ Z.Warmed39 U1'.vm ∧ U1'.heap = h0) (fun _ _ _ _ _ => True) (fun _ U1' oo' U2' => ∃ vv' LL', oo' = .returned vv' ∧ (Q_str_cf_1 Z t k vs h0 n0) vv' U2'.heap LL' ∧ FrameEnd U1' oo' U2' LL' ({ frames := 0, cells := 0, slots := 0, locals := 0 } : Room).cells ({ frames := 0, cells := 0, slots := 0, locals := 0 } : Room).slots) := by
  refine MetFree.of_bodySF (plainFor_of_name pn_java_lang_StringUTF16) hisR ?_
  intro p e s m args below meth c s₁ Bd hml0 hP hK
  obtain ⟨rfl, hZ, hh⟩ := hP
  have hx := Bd.exec
  have hby := Bd.bytes
  have hml : c.maxLocals = 2 := hml0
  have hown : s.vm.findClass "java/lang/StringUTF16" = some m.cls := findClass_of_methodNamed Bd.named
  have hnm := (name_of_methodNamed Bd.named Bd.method).1
  have X0 : Stand p l e ({ frames := 0, cells := 0, slots := 0, locals := 0 } : Room) s m #[(.ref t), (.int (1 : Int32))] below meth c s₁ [] 0 0 := Stand.of_body Bd
  have e0 : s₁.heap = h0 := by rw [← hh, Bd.state]; rfl
  have N0 := Fr.nil n0
  refine go_of (A := s₁.setTop (entryFrame m #[(.ref t), (.int (1 : Int32))] 2)) (B := s₁.setTop (mkF m 0 #[.val (.ref t), .val (.int (1 : Int32))] [])) (fun _ kk' => castTop (ef_str_cf_1 m t) kk') ?_
  refine go_of (B := (s₁.setTop (mkF m 1 #[.val (.ref t), .val (.int (1 : Int32))] [(.int (1 : Int32))]))) (fun _ kk => XS.iloadN X0.here hx rfl (hb hby d15_0) rfl kk) ?_
  refine go_of (B := (s₁.setTop (mkF m 2 #[.val (.ref t), .val (.int (1 : Int32))] [(.ref t), (.int (1 : Int32))]))) (fun _ kk => XS.aloadN X0.here hx rfl (hb hby d15_1) rfl rfl kk) ?_
  obtain ⟨cl1, Ar1, q1, Sz1, Nn1, Hh1, G1⟩ := id (V)
  have ln1 := len_of Sz1 Nn1
  refine go_of (B := (s₁.setTop (mkF m 3 #[.val (.ref t), .val (.int (1 : Int32))] [(.int (1 : Int32)), (.int (1 : Int32))]))) (fun _ kk => X0.arraylength hx (by rw [e0]; exact Ar1.1) (State.isArrayOf_alike hZ.alike Ar1.2.1) (g := (mkF m 2 #[.val (.ref t), .val (.int (1 : Int32))] [(.ref t), (.int (1 : Int32))])) rfl rfl (hb hby d15_2) _ (by rw [ln1]; exact kk)) ?_
  refine go_of (B := (s₁.setTop (mkF m 4 #[.val (.ref t), .val (.int (1 : Int32))] [(.int (0 : Int32))]))) (fun _ kk => XS.isub X0.here hx rfl (hb hby d15_3) rfl kk) ?_
  refine go_of (B := (s₁.setTop (mkF m 6 #[.val (.ref t), .val (.int (1 : Int32))] [(.int (31 : Int32)), (.int (0 : Int32))]))) (fun _ kk => XS.bipush X0.here hx rfl (hb hby d15_4) kk) ?_
  refine go_of (B := (s₁.setTop (mkF m 7 #[.val (.ref t), .val (.int (1 : Int32))] [(.int (0 : Int32))]))) (fun _ kk => XS.iushr X0.here hx rfl (hb hby d15_6) rfl kk) ?_
  refine go_of (B := (s₁.setTop (mkF m 8 #[.val (.ref t), .val (.int (1 : Int32))] [(.int (0 : Int32))]))) (fun _ kk => XS.i2b X0.here hx rfl (hb hby d15_7) rfl kk) ?_
  refine go_end X0 (v := some (.int (nar .byte (0 : Int32)))) (fun h => by rw [Bd.returns] at h; cases h) Bd.notSynchronized (by decide) (by decide) (Q := (Q_str_cf_1 Z t k vs h0 n0)) ?_ (fun fs hr => retN X0 hx (t := .byte) Bd.returns (by simp) (hb hby d15_8) hr)
  show (fun (v : Option Value) (h : Heap) (L : List Loc) => v = some (.int 0) ∧ Fr n0 L ∧ h = h0) (some (.int (nar .byte (0 : Int32)))) s₁.heap _
  rw [e0]
  exact ⟨rfl, N0, rfl⟩
theorem d4_27 : decode jdk_42_method_149_code 27 = .ok (.getstatic 38, 3) := by decide +kernel
theorem d4_30 : decode jdk_42_method_149_code 30 = .ok (.ifCond .eq 28, 3) := by decide +kernel
theorem d4_33 : decode jdk_42_method_149_code 33 = .ok (.aload_n 1, 1) := by decide +kernel
theorem d4_34 : decode jdk_42_method_149_code 34 = .ok (.iload_n 2, 1) := by decide +kernel
theorem d4_35 : decode jdk_42_method_149_code 35 = .ok (.iload_n 3, 1) := by decide +kernel
theorem d4_36 : decode jdk_42_method_149_code 36 = .ok (.invokestatic 177, 3) := by decide +kernel
theorem pd___CII__B : parseMethodDescriptor "([CII)[B" = some ⟨[(.array .char), .int, .int], some (.array .byte)⟩ := by decide +kernel
theorem d4_39 : decode jdk_42_method_149_code 39 = .ok (.astore 5, 2) := by decide +kernel
theorem d4_41 : decode jdk_42_method_149_code 41 = .ok (.aload_n 0, 1) := by decide +kernel
theorem d4_42 : decode jdk_42_method_149_code 42 = .ok (.aload 5, 2) := by decide +kernel
theorem d4_44 : decode jdk_42_method_149_code 44 = .ok (.iload_n 3, 1) := by decide +kernel
theorem d4_45 : decode jdk_42_method_149_code 45 = .ok (.invokestatic 47, 3) := by decide +kernel
theorem pd___BI_B : parseMethodDescriptor "([BI)B" = some ⟨[(.array .byte), .int], some .byte⟩ := by decide +kernel
theorem d4_48 : decode jdk_42_method_149_code 48 = .ok (.putfield 15, 3) := by decide +kernel
theorem d4_51 : decode jdk_42_method_149_code 51 = .ok (.aload_n 0, 1) := by decide +kernel
theorem d4_52 : decode jdk_42_method_149_code 52 = .ok (.aload 5, 2) := by decide +kernel
theorem d4_54 : decode jdk_42_method_149_code 54 = .ok (.putfield 9, 3) := by decide +kernel
theorem d4_57 : decode jdk_42_method_149_code 57 = .ok (.return_, 1) := by decide +kernel
def Q_str_i4_1 (Z : State) (a : Addr) (s' : Addr) (c0 : Int32) (ks : ClassId) (gC : Int32) (u : Value) (u2 : Value) (h0 : Heap) (n0 : Nat) (v : Option Value) (h : Heap) (L : List Loc) : Prop := v = none ∧ Fr n0 L ∧ Keep h0 h [a] ∧ Str Z h a 1 [c0]
theorem ef_str_i4_1 (m : MethodId) (a : Addr) (s' : Addr)  : entryFrame m #[(.ref a), (.ref s'), (.int (0 : Int32)), (.int (1 : Int32)), .null] 6 = mkF m 0 #[.val (.ref a), .val (.ref s'), .val (.int (0 : Int32)), .val (.int (1 : Int32)), .val .null, .unset] [] := by first | (simp [entryFrame, mkF, argsToLocals, Value.category]; done) | rfl
set_option maxRecDepth 65536 in
set_option maxHeartbeats 40000000 in
theorem str_i4_1 (l : Launch) (Z : State) (a0 : Array Value) (hw : ∀ d ∈ tables_1, d.before a0 Z = true) (ws : List Jvm.Cond) (a : Addr) (s' : Addr) (c0 : Int32) (ks : ClassId) (gC : Int32) (u : Value) (u2 : Value) (h0 : Heap) (n0 : Nat) (Z0 : n0 ≤ h0.size) (O : Old Z n0 h0) (SC : Sta Z Z.heap "java/lang/String" "COMPACT_STRINGS" "Z" (.int gC)) (hgC : ¬ gC = (0 : Int32)) (E : Exa Z h0 a "java/lang/String") (F : Fld Z h0 a "java/lang/String" "value" "[B" u) (F2 : Fld Z h0 a "java/lang/String" "coder" "B" u2) (g : n0 ≤ a) (Vs : Arv Z h0 s' ks .char 1 [(.int c0)] (.int 0)) (hc0 : ¬ c0 < 0 ∧ ¬ (255 : Int32) < c0) :
    MetFree l (⟨"java/lang/String", "<init>", "([CIILjava/lang/Void;)V"⟩ : MethodName) (head1 (Jvm.Cond.code (⟨"java/lang/String", "<init>", "([CIILjava/lang/Void;)V"⟩ : MethodName) jdk_42_method_149_code 6 none :: ws) ({ frames := 2, cells := 1, slots := 1, locals := 35 } : Room)) (fun aa' U1' => aa' = #[(.ref a), (.ref s'), (.int (0 : Int32)), (.int (1 : Int32)), .null] ∧ Z.Warmed39 U1'.vm ∧ U1'.heap = h0) (fun _ _ _ _ _ => True) (fun _ U1' oo' U2' => ∃ vv' LL', oo' = .returned vv' ∧ (Q_str_i4_1 Z a s' c0 ks gC u u2 h0 n0) vv' U2'.heap LL' ∧ FrameEnd U1' oo' U2' LL' ({ frames := 2, cells := 1, slots := 1, locals := 35 } : Room).cells ({ frames := 2, cells := 1, slots := 1, locals := 35 } : Room).slots) := by
  refine MetFree.of_bodySF (plainFor_of_name pn_java_lang_String) hisR ?_
  intro p e s m args below meth c s₁ Bd hml0 hP hK
  obtain ⟨rfl, hZ, hh⟩ := hP
  have hx := Bd.exec
  have hby := Bd.bytes
  have hml : c.maxLocals = 6 := hml0
  have hown : s.vm.findClass "java/lang/String" = some m.cls := findClass_of_methodNamed Bd.named
  have hnm := (name_of_methodNamed Bd.named Bd.method).1
  have X0 : Stand p l e ({ frames := 2, cells := 1, slots := 1, locals := 35 } : Room) s m #[(.ref a), (.ref s'), (.int (0 : Int32)), (.int (1 : Int32)), .null] below meth c s₁ [] 0 0 := Stand.of_body Bd
  have e0 : s₁.heap = h0 := by rw [← hh, Bd.state]; rfl
  have N0 := Fr.nil n0
  have lta := own_nlt (E.lt)
  have lts := own_nlt (Vs.lt)
  refine go_of (A := s₁.setTop (entryFrame m #[(.ref a), (.ref s'), (.int (0 : Int32)), (.int (1 : Int32)), .null] 6)) (B := s₁.setTop (mkF m 0 #[.val (.ref a), .val (.ref s'), .val (.int (0 : Int32)), .val (.int (1 : Int32)), .val .null, .unset] [])) (fun _ kk' => castTop (ef_str_i4_1 m a s') kk') ?_
  refine go_of (B := (s₁.setTop (mkF m 1 #[.val (.ref a), .val (.ref s'), .val (.int (0 : Int32)), .val (.int (1 : Int32)), .val .null, .unset] [(.ref a)]))) (fun _ kk => XS.aloadN X0.here hx rfl (hb hby d4_0) rfl rfl kk) ?_
  obtain ⟨T1, X1, e1, st1⟩ := initO X0 hx hZ hown (hw _ (List.mem_of_getElem? (i := 21) rfl)) (hw _ (List.mem_of_getElem? (i := 22) rfl)) (hw _ (List.mem_of_getElem? (i := 23) rfl)) e0 (g := (mkF m 1 #[.val (.ref a), .val (.ref s'), .val (.int (0 : Int32)), .val (.int (1 : Int32)), .val .null, .unset] [(.ref a)])) rfl (by rw [hml]; rfl) rfl (hb hby d4_1) (by decide) (W := 0) (by show 2 * 0 + _ ≤ _; exact Nat.le_of_eq rfl) (by decide)
  refine go_of (B := (T1.setTop (mkF m 4 #[.val (.ref a), .val (.ref s'), .val (.int (0 : Int32)), .val (.int (1 : Int32)), .val .null, .unset] []))) (st1) ?_
  refine go_of (B := (T1.setTop (mkF m 5 #[.val (.ref a), .val (.ref s'), .val (.int (0 : Int32)), .val (.int (1 : Int32)), .val .null, .unset] [(.int (1 : Int32))]))) (fun _ kk => XS.iloadN X1.here hx rfl (hb hby d4_4) rfl kk) ?_
  refine go_of (B := (T1.setTop (mkF m 27 #[.val (.ref a), .val (.ref s'), .val (.int (0 : Int32)), .val (.int (1 : Int32)), .val .null, .unset] []))) (fun _ kk => XS.ifYes X1.here hx rfl (pc0 := 5) (pc' := 27) rfl (hb hby d4_5) rfl ((if0 _ _).trans (feq (by decide : ¬ ((1 : Int32) = (0 : Int32)))).2) (by decide) (by decide) kk) ?_
  obtain ⟨T2, X2, e2, st2⟩ := getS2 X1 hx hZ hown (host := "") (Or.inl (hw _ (List.mem_of_getElem? (i := 66) rfl))) Via.refl e1 (SC.ext O.2) (g := (mkF m 27 #[.val (.ref a), .val (.ref s'), .val (.int (0 : Int32)), .val (.int (1 : Int32)), .val .null, .unset] [])) rfl (hb hby d4_27)
  refine go_of (B := (T2.setTop (mkF m 30 #[.val (.ref a), .val (.ref s'), .val (.int (0 : Int32)), .val (.int (1 : Int32)), .val .null, .unset] [(.int gC)]))) (st2) ?_
  refine go_of (B := (T2.setTop (mkF m 33 #[.val (.ref a), .val (.ref s'), .val (.int (0 : Int32)), .val (.int (1 : Int32)), .val .null, .unset] []))) (fun _ kk => XS.ifNo X2.here hx rfl (hb hby d4_30) rfl ((if0 _ _).trans (feq hgC).1) kk) ?_
  refine go_of (B := (T2.setTop (mkF m 34 #[.val (.ref a), .val (.ref s'), .val (.int (0 : Int32)), .val (.int (1 : Int32)), .val .null, .unset] [(.ref s')]))) (fun _ kk => XS.aloadN X2.here hx rfl (hb hby d4_33) rfl rfl kk) ?_
  refine go_of (B := (T2.setTop (mkF m 35 #[.val (.ref a), .val (.ref s'), .val (.int (0 : Int32)), .val (.int (1 : Int32)), .val .null, .unset] [(.int (0 : Int32)), (.ref s')]))) (fun _ kk => XS.iloadN X2.here hx rfl (hb hby d4_34) rfl kk) ?_
  refine go_of (B := (T2.setTop (mkF m 36 #[.val (.ref a), .val (.ref s'), .val (.int (0 : Int32)), .val (.int (1 : Int32)), .val .null, .unset] [(.int (1 : Int32)), (.int (0 : Int32)), (.ref s')]))) (fun _ kk => XS.iloadN X2.here hx rfl (hb hby d4_35) rfl kk) ?_
  obtain ⟨_, _, ⟨T3, L3, k3, n3⟩, -, X3, ⟨Lc3, hQ3, l3, y3, z3⟩, st3⟩ := Jvm.LawKit.callS X2 hx (y := (⟨"java/lang/StringUTF16", "compress", "([CII)[B"⟩ : MethodName)) hown (mvT hZ (hw _ (List.mem_of_getElem? (i := 88) rfl))) (mvT hZ (hw _ (List.mem_of_getElem? (i := 89) rfl))) (mvT hZ (hw _ (List.mem_of_getElem? (i := 90) rfl))) (mvT hZ (hw _ (List.mem_of_getElem? (i := 91) rfl))) (by decide) (backOf (W := 0) (str_c3_1 l Z a0 hw [] s' c0 ks h0 n0 (by first | omega | exact own_ne (by omega) | exact own_le (by omega) | exact own_lt (by omega)) Vs hc0) hZ (hw _ (List.mem_of_getElem? (i := 91) rfl)) (hw _ (List.mem_of_getElem? (i := 90) rfl)) (by decide) (by decide)) (g := (mkF m 36 #[.val (.ref a), .val (.ref s'), .val (.int (0 : Int32)), .val (.int (1 : Int32)), .val .null, .unset] [(.int (1 : Int32)), (.int (0 : Int32)), (.ref s')])) rfl (by rw [hml]; rfl) (argsL := [(.ref s'), (.int (0 : Int32)), (.int (1 : Int32))]) (rest := []) (lenOf pd___CII__B rfl) rfl (by show 2 * 0 + _ ≤ _; exact Nat.le_of_eq rfl) (hb hby d4_36) (fun _ _ => ⟨rfl, e2, (by decide : 0 + 1 ≤ _), (by decide : 0 + 1 ≤ _)⟩)
  dsimp only [Pt.U, Pt.locs, Pt.cells, Pt.slots] at X3 l3 y3 z3 st3 hQ3
  subst l3 y3 z3
  obtain ⟨b3, k3, rfl, N3q, lo3, K3, V3⟩ := hQ3
  have lo3 := own_nle lo3
  have N3 := Fr.app N0 N3q
  have hi3 := own_nlt (V3.lt)
  have sz3 := K3.1
  refine go_of (B := (T3.setTop (mkF m 39 #[.val (.ref a), .val (.ref s'), .val (.int (0 : Int32)), .val (.int (1 : Int32)), .val .null, .unset] [(.ref b3)]))) (st3) ?_
  refine go_of (B := (T3.setTop (mkF m 41 #[.val (.ref a), .val (.ref s'), .val (.int (0 : Int32)), .val (.int (1 : Int32)), .val .null, .val (.ref b3)] []))) (fun _ kk => XS.astore X3.here hx rfl (hb hby d4_39) rfl rfl rfl kk) ?_
  refine go_of (B := (T3.setTop (mkF m 42 #[.val (.ref a), .val (.ref s'), .val (.int (0 : Int32)), .val (.int (1 : Int32)), .val .null, .val (.ref b3)] [(.ref a)]))) (fun _ kk => XS.aloadN X3.here hx rfl (hb hby d4_41) rfl rfl kk) ?_
  refine go_of (B := (T3.setTop (mkF m 44 #[.val (.ref a), .val (.ref s'), .val (.int (0 : Int32)), .val (.int (1 : Int32)), .val .null, .val (.ref b3)] [(.ref b3), (.ref a)]))) (fun _ kk => XS.aload X3.here hx rfl (hb hby d4_42) rfl rfl kk) ?_
  refine go_of (B := (T3.setTop (mkF m 45 #[.val (.ref a), .val (.ref s'), .val (.int (0 : Int32)), .val (.int (1 : Int32)), .val .null, .val (.ref b3)] [(.int (1 : Int32)), (.ref b3), (.ref a)]))) (fun _ kk => XS.iloadN X3.here hx rfl (hb hby d4_44) rfl kk) ?_
  obtain ⟨_, _, ⟨T4, L4, k4, n4⟩, -, X4, ⟨Lc4, hQ4, l4, y4, z4⟩, st4⟩ := Jvm.LawKit.callS X3 hx (y := (⟨"java/lang/StringUTF16", "coderFromArrayLen", "([BI)B"⟩ : MethodName)) hown (mvT hZ (hw _ (List.mem_of_getElem? (i := 95) rfl))) (mvT hZ (hw _ (List.mem_of_getElem? (i := 96) rfl))) (mvT hZ (hw _ (List.mem_of_getElem? (i := 90) rfl))) (mvT hZ (hw _ (List.mem_of_getElem? (i := 97) rfl))) (by decide) (backOf (W := 1) (str_cf_1 l Z a0 hw [] b3 k3 _ T3.heap n0 (by first | omega | exact own_ne (by omega) | exact own_le (by omega) | exact own_lt (by omega)) V3) hZ (hw _ (List.mem_of_getElem? (i := 97) rfl)) (hw _ (List.mem_of_getElem? (i := 90) rfl)) (by decide) (by decide)) (g := (mkF m 45 #[.val (.ref a), .val (.ref s'), .val (.int (0 : Int32)), .val (.int (1 : Int32)), .val .null, .val (.ref b3)] [(.int (1 : Int32)), (.ref b3), (.ref a)])) rfl (by rw [hml]; rfl) (argsL := [(.ref b3), (.int (1 : Int32))]) (rest := [(.ref a)]) (lenOf pd___BI_B rfl) rfl (by show 2 * 0 + _ ≤ _; exact Nat.le_of_eq rfl) (hb hby d4_45) (fun _ _ => ⟨rfl, rfl, (by decide : 1 + 0 ≤ _), (by decide : 1 + 0 ≤ _)⟩)
  dsimp only [Pt.U, Pt.locs, Pt.cells, Pt.slots] at X4 l4 y4 z4 st4 hQ4
  subst l4 y4 z4
  obtain ⟨rfl, N4q, e4⟩ := hQ4
  have N4 := Fr.app N3 N4q
  refine go_of (B := (T4.setTop (mkF m 48 #[.val (.ref a), .val (.ref s'), .val (.int (0 : Int32)), .val (.int (1 : Int32)), .val .null, .val (.ref b3)] [(.int (0 : Int32)), (.ref a)]))) (st4) ?_
  have cf_5 := (E.keep K3)
  have cf_6 := (F2.keep K3 nin0)
  obtain ⟨T7, h7, X7, e7, W7, st7⟩ := putFN X4 hx hZ hown (hw _ (List.mem_of_getElem? (i := 31) rfl)) Via.refl e4 cf_6 cf_5 (Or.inr ⟨(hw _ (List.mem_of_getElem? (i := 27) rfl)), rfl, hnm⟩) (hw _ (List.mem_of_getElem? (i := 11) rfl)) (ty := .byte) (v' := (.int (nar .byte (0 : Int32)))) (by decide) rfl (fits_nar_byte _) (g := (mkF m 48 #[.val (.ref a), .val (.ref s'), .val (.int (0 : Int32)), .val (.int (1 : Int32)), .val .null, .val (.ref b3)] [(.int (0 : Int32)), (.ref a)])) rfl rfl (hb hby d4_48)
  have sz7 := W7.size
  have Fw7 := cf_6.same W7
  have N7 := Fr.snoc X7 N4 (g : n0 ≤ a)
  refine go_of (B := (T7.setTop (mkF m 51 #[.val (.ref a), .val (.ref s'), .val (.int (0 : Int32)), .val (.int (1 : Int32)), .val .null, .val (.ref b3)] []))) (st7) ?_
  refine go_of (B := (T7.setTop (mkF m 52 #[.val (.ref a), .val (.ref s'), .val (.int (0 : Int32)), .val (.int (1 : Int32)), .val .null, .val (.ref b3)] [(.ref a)]))) (fun _ kk => XS.aloadN X7.here hx rfl (hb hby d4_51) rfl rfl kk) ?_
  refine go_of (B := (T7.setTop (mkF m 54 #[.val (.ref a), .val (.ref s'), .val (.int (0 : Int32)), .val (.int (1 : Int32)), .val .null, .val (.ref b3)] [(.ref b3), (.ref a)]))) (fun _ kk => XS.aload X7.here hx rfl (hb hby d4_52) rfl rfl kk) ?_
  have cf_8 := (cf_5.wr W7)
  have cf_9 := ((F.keep K3 nin0).other W7 (Or.inr (slot_ne (Or.inr (hw _ (List.mem_of_getElem? (i := 26) rfl))) (Or.inr (hw _ (List.mem_of_getElem? (i := 27) rfl))) (by decide) (t := (.array .byte)) (t' := .byte) (by decide) (by decide))))
  obtain ⟨T10, h10, X10, e10, W10, st10⟩ := putF X7 hx hZ hown (host := "") (Or.inl (hw _ (List.mem_of_getElem? (i := 30) rfl))) Via.refl e7 cf_9 cf_8 (Or.inr ⟨(hw _ (List.mem_of_getElem? (i := 26) rfl)), rfl, hnm⟩) (hw _ (List.mem_of_getElem? (i := 11) rfl)) (ty := (.array .byte)) (by decide) rfl rfl (g := (mkF m 54 #[.val (.ref a), .val (.ref s'), .val (.int (0 : Int32)), .val (.int (1 : Int32)), .val .null, .val (.ref b3)] [(.ref b3), (.ref a)])) rfl rfl (hb hby d4_54)
  have sz10 := W10.size
  have Fw10 := cf_9.same W10
  have N10 := Fr.snoc X10 N7 (g : n0 ≤ a)
  refine go_of (B := (T10.setTop (mkF m 57 #[.val (.ref a), .val (.ref s'), .val (.int (0 : Int32)), .val (.int (1 : Int32)), .val .null, .val (.ref b3)] []))) (st10) ?_
  have cf_11 := ((V3.other W7 (by first | omega | exact own_ne (by omega) | exact own_le (by omega) | exact own_lt (by omega))).other W10 (by first | omega | exact own_ne (by omega) | exact own_le (by omega) | exact own_lt (by omega)))
  have cf_12 := (Fw7.other W10 (Or.inr (slot_ne (Or.inr (hw _ (List.mem_of_getElem? (i := 27) rfl))) (Or.inr (hw _ (List.mem_of_getElem? (i := 26) rfl))) (by decide) (t := .byte) (t' := (.array .byte)) (by decide) (by decide))))
  have cf_13 := (cf_8.wr W10)
  refine go_end X10 (v := none) (fun _ => rfl) Bd.notSynchronized (by decide) (by decide) (Q := (Q_str_i4_1 Z a s' c0 ks gC u u2 h0 n0)) ?_ (fun fs hr => X10.returnOut hx Bd.returns (hb hby d4_57) hr)
  show (fun (v : Option Value) (h : Heap) (L : List Loc) => v = none ∧ Fr n0 L ∧ Keep h0 h [a] ∧ Str Z h a 1 [c0]) (none) T10.heap _
  rw [e10]
  exact ⟨rfl, N10, ((((Keep.refl h0 [a]).trans K3 all0).wr W7 (Or.inl (List.mem_of_getElem? (i := 0) rfl))).wr W10 (Or.inl (List.mem_of_getElem? (i := 0) rfl))), ⟨b3, k3, cf_13, cf_12, Fw10, cf_11, (own_allc hc0 (fun _ q => nomatch q))⟩⟩
def Q_str_i1_1 (Z : State) (a : Addr) (s' : Addr) (c0 : Int32) (ks : ClassId) (gC : Int32) (u : Value) (u2 : Value) (h0 : Heap) (n0 : Nat) (v : Option Value) (h : Heap) (L : List Loc) : Prop := v = none ∧ Fr n0 L ∧ Keep h0 h [a] ∧ Str Z h a 1 [c0]
theorem ef_str_i1_1 (m : MethodId) (a : Addr) (s' : Addr)  : entryFrame m #[(.ref a), (.ref s')] 2 = mkF m 0 #[.val (.ref a), .val (.ref s')] [] := by first | (simp [entryFrame, mkF, argsToLocals, Value.category]; done) | rfl
set_option maxRecDepth 65536 in
set_option maxHeartbeats 40000000 in
theorem str_i1_1 (l : Launch) (Z : State) (a0 : Array Value) (hw : ∀ d ∈ tables_1, d.before a0 Z = true) (ws : List Jvm.Cond) (a : Addr) (s' : Addr) (c0 : Int32) (ks : ClassId) (gC : Int32) (u : Value) (u2 : Value) (h0 : Heap) (n0 : Nat) (Z0 : n0 ≤ h0.size) (O : Old Z n0 h0) (SC : Sta Z Z.heap "java/lang/String" "COMPACT_STRINGS" "Z" (.int gC)) (hgC : ¬ gC = (0 : Int32)) (E : Exa Z h0 a "java/lang/String") (F : Fld Z h0 a "java/lang/String" "value" "[B" u) (F2 : Fld Z h0 a "java/lang/String" "coder" "B" u2) (g : n0 ≤ a) (Vs : Arv Z h0 s' ks .char 1 [(.int c0)] (.int 0)) (hc0 : ¬ c0 < 0 ∧ ¬ (255 : Int32) < c0) :
    MetFree l (⟨"java/lang/String", "<init>", "([C)V"⟩ : MethodName) (head1 (Jvm.Cond.code (⟨"java/lang/String", "<init>", "([C)V"⟩ : MethodName) jdk_42_method_3_code 2 none :: ws) ({ frames := 3, cells := 1, slots := 1, locals := 52 } : Room)) (fun aa' U1' => aa' = #[(.ref a), (.ref s')] ∧ Z.Warmed39 U1'.vm ∧ U1'.heap = h0) (fun _ _ _ _ _ => True) (fun _ U1' oo' U2' => ∃ vv' LL', oo' = .returned vv' ∧ (Q_str_i1_1 Z a s' c0 ks gC u u2 h0 n0) vv' U2'.heap LL' ∧ FrameEnd U1' oo' U2' LL' ({ frames := 3, cells := 1, slots := 1, locals := 52 } : Room).cells ({ frames := 3, cells := 1, slots := 1, locals := 52 } : Room).slots) := by
  refine MetFree.of_bodySF (plainFor_of_name pn_java_lang_String) hisR ?_
  intro p e s m args below meth c s₁ Bd hml0 hP hK
  obtain ⟨rfl, hZ, hh⟩ := hP
  have hx := Bd.exec
  have hby := Bd.bytes
  have hml : c.maxLocals = 2 := hml0
  have hown : s.vm.findClass "java/lang/String" = some m.cls := findClass_of_methodNamed Bd.named
  have hnm := (name_of_methodNamed Bd.named Bd.method).1
  have X0 : Stand p l e ({ frames := 3, cells := 1, slots := 1, locals := 52 } : Room) s m #[(.ref a), (.ref s')] below meth c s₁ [] 0 0 := Stand.of_body Bd
  have e0 : s₁.heap = h0 := by rw [← hh, Bd.state]; rfl
  have N0 := Fr.nil n0
  have lta := own_nlt (E.lt)
  have lts := own_nlt (Vs.lt)
  refine go_of (A := s₁.setTop (entryFrame m #[(.ref a), (.ref s')] 2)) (B := s₁.setTop (mkF m 0 #[.val (.ref a), .val (.ref s')] [])) (fun _ kk' => castTop (ef_str_i1_1 m a s') kk') ?_
  refine go_of (B := (s₁.setTop (mkF m 1 #[.val (.ref a), .val (.ref s')] [(.ref a)]))) (fun _ kk => XS.aloadN X0.here hx rfl (hb hby d3_0) rfl rfl kk) ?_
  refine go_of (B := (s₁.setTop (mkF m 2 #[.val (.ref a), .val (.ref s')] [(.ref s'), (.ref a)]))) (fun _ kk => XS.aloadN X0.here hx rfl (hb hby d3_1) rfl rfl kk) ?_
  refine go_of (B := (s₁.setTop (mkF m 3 #[.val (.ref a), .val (.ref s')] [(.int (0 : Int32)), (.ref s'), (.ref a)]))) (fun _ kk => XS.iconst X0.here hx rfl (hb hby d3_2) kk) ?_
  refine go_of (B := (s₁.setTop (mkF m 4 #[.val (.ref a), .val (.ref s')] [(.ref s'), (.int (0 : Int32)), (.ref s'), (.ref a)]))) (fun _ kk => XS.aloadN X0.here hx rfl (hb hby d3_3) rfl rfl kk) ?_
  obtain ⟨cl1, Ar1, q1, Sz1, Nn1, Hh1, G1⟩ := id (Vs)
  have ln1 := len_of Sz1 Nn1
  refine go_of (B := (s₁.setTop (mkF m 5 #[.val (.ref a), .val (.ref s')] [(.int (1 : Int32)), (.int (0 : Int32)), (.ref s'), (.ref a)]))) (fun _ kk => X0.arraylength hx (by rw [e0]; exact Ar1.1) (State.isArrayOf_alike hZ.alike Ar1.2.1) (g := (mkF m 4 #[.val (.ref a), .val (.ref s')] [(.ref s'), (.int (0 : Int32)), (.ref s'), (.ref a)])) rfl rfl (hb hby d3_4) _ (by rw [ln1]; exact kk)) ?_
  refine go_of (B := (s₁.setTop (mkF m 6 #[.val (.ref a), .val (.ref s')] [.null, (.int (1 : Int32)), (.int (0 : Int32)), (.ref s'), (.ref a)]))) (fun _ kk => XS.aconstNull X0.here hx rfl (hb hby d3_5) kk) ?_
  obtain ⟨_, _, ⟨T2, L2, k2, n2⟩, -, X2, ⟨Lc2, hQ2, l2, y2, z2⟩, st2⟩ := X0.specialBack hx (y := (⟨"java/lang/String", "<init>", "([CIILjava/lang/Void;)V"⟩ : MethodName)) rfl hown (mvT hZ (hw _ (List.mem_of_getElem? (i := 17) rfl))) (mvT hZ (hw _ (List.mem_of_getElem? (i := 18) rfl))) (mvT hZ (hw _ (List.mem_of_getElem? (i := 20) rfl))) (by decide) (backOf (W := 0) (str_i4_1 l Z a0 hw [] a s' c0 ks gC u u2 h0 n0 Z0 O SC hgC E F F2 g Vs hc0) hZ (hw _ (List.mem_of_getElem? (i := 20) rfl)) (hw _ (List.mem_of_getElem? (i := 12) rfl)) (by decide) (by decide)) (g := (mkF m 6 #[.val (.ref a), .val (.ref s')] [.null, (.int (1 : Int32)), (.int (0 : Int32)), (.ref s'), (.ref a)])) rfl (by rw [hml]; rfl) (Steps.refl _) (a := a) (argsL := [(.ref s'), (.int (0 : Int32)), (.int (1 : Int32)), .null]) (rest := []) (lenOf pd___CIILjava_lang_Void__V rfl) rfl (by show 2 * 0 + _ ≤ _; exact Nat.le_of_eq rfl) (hb hby d3_6) (fun _ _ => ⟨rfl, e0, (by decide : 0 + 1 ≤ _), (by decide : 0 + 1 ≤ _)⟩)
  dsimp only [Pt.U, Pt.locs, Pt.cells, Pt.slots] at X2 l2 y2 z2 st2 hQ2
  subst l2 y2 z2
  obtain ⟨rfl, N2q, K2, S2⟩ := hQ2
  have N2 := Fr.app N0 N2q
  have sz2 := K2.1
  refine go_tr (B := (T2.setTop (mkF m 9 #[.val (.ref a), .val (.ref s')] []))) (st2) ?_
  refine go_end X2 (v := none) (fun _ => rfl) Bd.notSynchronized (by decide) (by decide) (Q := (Q_str_i1_1 Z a s' c0 ks gC u u2 h0 n0)) ?_ (fun fs hr => X2.returnOut hx Bd.returns (hb hby d3_9) hr)
  show (fun (v : Option Value) (h : Heap) (L : List Loc) => v = none ∧ Fr n0 L ∧ Keep h0 h [a] ∧ Str Z h a 1 [c0]) (none) T2.heap _
  exact ⟨rfl, N2, ((Keep.refl h0 [a]).trans K2 (allS (Or.inl (List.mem_of_getElem? (i := 0) rfl)) all0)), S2⟩
def Q_str_c5_2 (Z : State) (s' : Addr) (d : Addr) (c0 : Int32) (c1 : Int32) (ks : ClassId) (kd : ClassId) (h0 : Heap) (n0 : Nat) (v : Option Value) (h : Heap) (L : List Loc) : Prop := v = some (.int 2) ∧ Fr n0 L ∧ Keep h0 h [d] ∧ Arv Z h d kd .byte 2 [(.int (own_b8 c0)), (.int (own_b8 c1))] (.int 0)
theorem ef_str_c5_2 (m : MethodId) (s' : Addr) (d : Addr)  : entryFrame m #[(.ref s'), (.int (0 : Int32)), (.ref d), (.int (0 : Int32)), (.int (2 : Int32))] 7 = mkF m 0 #[.val (.ref s'), .val (.int (0 : Int32)), .val (.ref d), .val (.int (0 : Int32)), .val (.int (2 : Int32)), .unset, .unset] [] := by first | (simp [entryFrame, mkF, argsToLocals, Value.category]; done) | rfl
set_option maxRecDepth 65536 in
set_option maxHeartbeats 40000000 in
theorem str_c5_2 (l : Launch) (Z : State) (a0 : Array Value) (hw : ∀ d ∈ tables_1, d.before a0 Z = true) (ws : List Jvm.Cond) (s' : Addr) (d : Addr) (c0 : Int32) (c1 : Int32) (ks : ClassId) (kd : ClassId) (h0 : Heap) (n0 : Nat) (Z0 : n0 ≤ h0.size) (Vs : Arv Z h0 s' ks .char 2 [(.int c0), (.int c1)] (.int 0)) (Vd : Arv Z h0 d kd .byte 2 [(.int 0), (.int 0)] (.int 0)) (nsd : s' ≠ d) (g : n0 ≤ d) (hc0 : ¬ c0 < 0 ∧ ¬ (255 : Int32) < c0) (hc1 : ¬ c1 < 0 ∧ ¬ (255 : Int32) < c1) :
    MetFree l (⟨"java/lang/StringUTF16", "compress", "([CI[BII)I"⟩ : MethodName) (head1 (Jvm.Cond.code (⟨"java/lang/StringUTF16", "compress", "([CI[BII)I"⟩ : MethodName) jdk_52_method_21_code 7 (some .int) :: ws) ({ frames := 0, cells := 0, slots := 0, locals := 0 } : Room)) (fun aa' U1' => aa' = #[(.ref s'), (.int (0 : Int32)), (.ref d), (.int (0 : Int32)), (.int (2 : Int32))] ∧ Z.Warmed39 U1'.vm ∧ U1'.heap = h0) (fun _ _ _ _ _ => True) (fun _ U1' oo' U2' => ∃ vv' LL', oo' = .returned vv' ∧ (Q_str_c5_2 Z s' d c0 c1 ks kd h0 n0) vv' U2'.heap LL' ∧ FrameEnd U1' oo' U2' LL' ({ frames := 0, cells := 0, slots := 0, locals := 0 } : Room).cells ({ frames := 0, cells := 0, slots := 0, locals := 0 } : Room).slots) := by
  refine MetFree.of_bodySF (plainFor_of_name pn_java_lang_StringUTF16) hisR ?_
  intro p e s m args below meth c s₁ Bd hml0 hP hK
  obtain ⟨rfl, hZ, hh⟩ := hP
  have hx := Bd.exec
  have hby := Bd.bytes
  have hml : c.maxLocals = 7 := hml0
  have hown : s.vm.findClass "java/lang/StringUTF16" = some m.cls := findClass_of_methodNamed Bd.named
  have hnm := (name_of_methodNamed Bd.named Bd.method).1
  have X0 : Stand p l e ({ frames := 0, cells := 0, slots := 0, locals := 0 } : Room) s m #[(.ref s'), (.int (0 : Int32)), (.ref d), (.int (0 : Int32)), (.int (2 : Int32))] below meth c s₁ [] 0 0 := Stand.of_body Bd
  have e0 : s₁.heap = h0 := by rw [← hh, Bd.state]; rfl
  have N0 := Fr.nil n0
  have lts := own_nlt (Vs.lt)
  have ltd := own_nlt (Vd.lt)
  refine go_of (A := s₁.setTop (entryFrame m #[(.ref s'), (.int (0 : Int32)), (.ref d), (.int (0 : Int32)), (.int (2 : Int32))] 7)) (B := s₁.setTop (mkF m 0 #[.val (.ref s'), .val (.int (0 : Int32)), .val (.ref d), .val (.int (0 : Int32)), .val (.int (2 : Int32)), .unset, .unset] [])) (fun _ kk' => castTop (ef_str_c5_2 m s' d) kk') ?_
  refine go_of (B := (s₁.setTop (mkF m 1 #[.val (.ref s'), .val (.int (0 : Int32)), .val (.ref d), .val (.int (0 : Int32)), .val (.int (2 : Int32)), .unset, .unset] [(.int (0 : Int32))]))) (fun _ kk => XS.iconst X0.here hx rfl (hb hby d14_0) kk) ?_
  refine go_of (B := (s₁.setTop (mkF m 3 #[.val (.ref s'), .val (.int (0 : Int32)), .val (.ref d), .val (.int (0 : Int32)), .val (.int (2 : Int32)), .val (.int (0 : Int32)), .unset] []))) (fun _ kk => XS.istore X0.here hx rfl (hb hby d14_1) rfl rfl kk) ?_
  refine go_of (B := (s₁.setTop (mkF m 5 #[.val (.ref s'), .val (.int (0 : Int32)), .val (.ref d), .val (.int (0 : Int32)), .val (.int (2 : Int32)), .val (.int (0 : Int32)), .unset] [(.int (0 : Int32))]))) (fun _ kk => XS.iload X0.here hx rfl (hb hby d14_3) rfl kk) ?_
  refine go_of (B := (s₁.setTop (mkF m 7 #[.val (.ref s'), .val (.int (0 : Int32)), .val (.ref d), .val (.int (0 : Int32)), .val (.int (2 : Int32)), .val (.int (0 : Int32)), .unset] [(.int (2 : Int32)), (.int (0 : Int32))]))) (fun _ kk => XS.iload X0.here hx rfl (hb hby d14_5) rfl kk) ?_
  refine go_of (B := (s₁.setTop (mkF m 10 #[.val (.ref s'), .val (.int (0 : Int32)), .val (.ref d), .val (.int (0 : Int32)), .val (.int (2 : Int32)), .val (.int (0 : Int32)), .unset] []))) (fun _ kk => XS.icmpNo X0.here hx rfl (hb hby d14_7) rfl (tlt (by decide : (0 : Int32) < (2 : Int32))).2.1 kk) ?_
  refine go_of (B := (s₁.setTop (mkF m 11 #[.val (.ref s'), .val (.int (0 : Int32)), .val (.ref d), .val (.int (0 : Int32)), .val (.int (2 : Int32)), .val (.int (0 : Int32)), .unset] [(.ref s')]))) (fun _ kk => XS.aloadN X0.here hx rfl (hb hby d14_10) rfl rfl kk) ?_
  refine go_of (B := (s₁.setTop (mkF m 12 #[.val (.ref s'), .val (.int (0 : Int32)), .val (.ref d), .val (.int (0 : Int32)), .val (.int (2 : Int32)), .val (.int (0 : Int32)), .unset] [(.int (0 : Int32)), (.ref s')]))) (fun _ kk => XS.iloadN X0.here hx rfl (hb hby d14_11) rfl kk) ?_
  obtain ⟨cl1, Ar1, q1, Sz1, Nn1, Hh1, G1⟩ := id (Vs)
  refine go_of (B := (s₁.setTop (mkF m 13 #[.val (.ref s'), .val (.int (0 : Int32)), .val (.ref d), .val (.int (0 : Int32)), .val (.int (2 : Int32)), .val (.int (0 : Int32)), .unset] [(.int c0)]))) (fun _ kk => X0.caload hx (j := (0 : Int32)) (v := (.int c0)) (by rw [e0]; exact Ar1.1) (State.isArrayOf_alike hZ.alike Ar1.2.1) Ar1.2.2 (inb_of Sz1 ⟨by decide, by decide⟩) (Hh1.at (inb_of Sz1 ⟨by decide, by decide⟩) rfl) (g := (mkF m 12 #[.val (.ref s'), .val (.int (0 : Int32)), .val (.ref d), .val (.int (0 : Int32)), .val (.int (2 : Int32)), .val (.int (0 : Int32)), .unset] [(.int (0 : Int32)), (.ref s')])) rfl rfl (hb hby d14_12) _ kk) ?_
  refine go_of (B := (s₁.setTop (mkF m 15 #[.val (.ref s'), .val (.int (0 : Int32)), .val (.ref d), .val (.int (0 : Int32)), .val (.int (2 : Int32)), .val (.int (0 : Int32)), .val (.int c0)] []))) (fun _ kk => XS.istore X0.here hx rfl (hb hby d14_13) rfl rfl kk) ?_
  refine go_of (B := (s₁.setTop (mkF m 17 #[.val (.ref s'), .val (.int (0 : Int32)), .val (.ref d), .val (.int (0 : Int32)), .val (.int (2 : Int32)), .val (.int (0 : Int32)), .val (.int c0)] [(.int c0)]))) (fun _ kk => XS.iload X0.here hx rfl (hb hby d14_15) rfl kk) ?_
  refine go_of (B := (s₁.setTop (mkF m 20 #[.val (.ref s'), .val (.int (0 : Int32)), .val (.ref d), .val (.int (0 : Int32)), .val (.int (2 : Int32)), .val (.int (0 : Int32)), .val (.int c0)] [(.int (255 : Int32)), (.int c0)]))) (fun _ kk => XS.sipush X0.here hx rfl (hb hby d14_17) kk) ?_
  refine go_of (B := (s₁.setTop (mkF m 26 #[.val (.ref s'), .val (.int (0 : Int32)), .val (.ref d), .val (.int (0 : Int32)), .val (.int (2 : Int32)), .val (.int (0 : Int32)), .val (.int c0)] []))) (fun _ kk => XS.icmpYes X0.here hx rfl (pc0 := 20) (pc' := 26) rfl (hb hby d14_20) rfl (flt hc0.2).2.2.2 (by decide) (by decide) kk) ?_
  refine go_of (B := (s₁.setTop (mkF m 27 #[.val (.ref s'), .val (.int (0 : Int32)), .val (.ref d), .val (.int (0 : Int32)), .val (.int (2 : Int32)), .val (.int (0 : Int32)), .val (.int c0)] [(.ref d)]))) (fun _ kk => XS.aloadN X0.here hx rfl (hb hby d14_26) rfl rfl kk) ?_
  refine go_of (B := (s₁.setTop (mkF m 28 #[.val (.ref s'), .val (.int (0 : Int32)), .val (.ref d), .val (.int (0 : Int32)), .val (.int (2 : Int32)), .val (.int (0 : Int32)), .val (.int c0)] [(.int (0 : Int32)), (.ref d)]))) (fun _ kk => XS.iloadN X0.here hx rfl (hb hby d14_27) rfl kk) ?_
  refine go_of (B := (s₁.setTop (mkF m 30 #[.val (.ref s'), .val (.int (0 : Int32)), .val (.ref d), .val (.int (0 : Int32)), .val (.int (2 : Int32)), .val (.int (0 : Int32)), .val (.int c0)] [(.int c0), (.int (0 : Int32)), (.ref d)]))) (fun _ kk => XS.iload X0.here hx rfl (hb hby d14_28) rfl kk) ?_
  refine go_of (B := (s₁.setTop (mkF m 31 #[.val (.ref s'), .val (.int (0 : Int32)), .val (.ref d), .val (.int (0 : Int32)), .val (.int (2 : Int32)), .val (.int (0 : Int32)), .val (.int c0)] [(.int (c0.toInt8.toInt32)), (.int (0 : Int32)), (.ref d)]))) (fun _ kk => XS.i2b X0.here hx rfl (hb hby d14_30) rfl kk) ?_
  obtain ⟨cl2, Ar2, q2, Sz2, Nn2, Hh2, G2⟩ := id (Vd)
  obtain ⟨T3, h3, X3, e3, W3, st3⟩ := stB X0 hx hZ e0 Ar2 (j := (0 : Int32)) (inb_of Sz2 ⟨by decide, by decide⟩) (g := (mkF m 31 #[.val (.ref s'), .val (.int (0 : Int32)), .val (.ref d), .val (.int (0 : Int32)), .val (.int (2 : Int32)), .val (.int (0 : Int32)), .val (.int c0)] [(.int (c0.toInt8.toInt32)), (.int (0 : Int32)), (.ref d)])) rfl rfl (hb hby d14_31)
  have sz3 := W3.size
  have N3 := Fr.snoc X3 N0 (g : n0 ≤ d)
  have V3 : Arv Z h3 d kd .byte (2 : Int32) [(.int ((c0.toInt8.toInt32).toInt8.toInt32)), (.int (0 : Int32))] (.int (0 : Int32)) := Arv.set Ar2 q2 Sz2 Nn2 Hh2 G2 (fits_nar_byte _) W3 0 rfl (Nat.le_of_ble_eq_true rfl)
  rw [own_bb] at V3
  refine go_of (B := (T3.setTop (mkF m 32 #[.val (.ref s'), .val (.int (0 : Int32)), .val (.ref d), .val (.int (0 : Int32)), .val (.int (2 : Int32)), .val (.int (0 : Int32)), .val (.int c0)] []))) (st3) ?_
  refine go_of (B := (T3.setTop (mkF m 35 #[.val (.ref s'), .val (.int (1 : Int32)), .val (.ref d), .val (.int (0 : Int32)), .val (.int (2 : Int32)), .val (.int (0 : Int32)), .val (.int c0)] []))) (fun _ kk => XS.iinc X3.here hx rfl (hb hby d14_32) rfl rfl kk) ?_
  refine go_of (B := (T3.setTop (mkF m 38 #[.val (.ref s'), .val (.int (1 : Int32)), .val (.ref d), .val (.int (1 : Int32)), .val (.int (2 : Int32)), .val (.int (0 : Int32)), .val (.int c0)] []))) (fun _ kk => XS.iinc X3.here hx rfl (hb hby d14_35) rfl rfl kk) ?_
  refine go_of (B := (T3.setTop (mkF m 41 #[.val (.ref s'), .val (.int (1 : Int32)), .val (.ref d), .val (.int (1 : Int32)), .val (.int (2 : Int32)), .val (.int (1 : Int32)), .val (.int c0)] []))) (fun _ kk => XS.iinc X3.here hx rfl (hb hby d14_38) rfl rfl kk) ?_
  refine go_of (B := (T3.setTop (mkF m 3 #[.val (.ref s'), .val (.int (1 : Int32)), .val (.ref d), .val (.int (1 : Int32)), .val (.int (2 : Int32)), .val (.int (1 : Int32)), .val (.int c0)] []))) (fun _ kk => XS.goto X3.here hx rfl (pc0 := 41) (pc' := 3) rfl (hb hby d14_41) (by decide) (by decide) kk) ?_
  refine go_of (B := (T3.setTop (mkF m 5 #[.val (.ref s'), .val (.int (1 : Int32)), .val (.ref d), .val (.int (1 : Int32)), .val (.int (2 : Int32)), .val (.int (1 : Int32)), .val (.int c0)] [(.int (1 : Int32))]))) (fun _ kk => XS.iload X3.here hx rfl (hb hby d14_3) rfl kk) ?_
  refine go_of (B := (T3.setTop (mkF m 7 #[.val (.ref s'), .val (.int (1 : Int32)), .val (.ref d), .val (.int (1 : Int32)), .val (.int (2 : Int32)), .val (.int (1 : Int32)), .val (.int c0)] [(.int (2 : Int32)), (.int (1 : Int32))]))) (fun _ kk => XS.iload X3.here hx rfl (hb hby d14_5) rfl kk) ?_
  refine go_of (B := (T3.setTop (mkF m 10 #[.val (.ref s'), .val (.int (1 : Int32)), .val (.ref d), .val (.int (1 : Int32)), .val (.int (2 : Int32)), .val (.int (1 : Int32)), .val (.int c0)] []))) (fun _ kk => XS.icmpNo X3.here hx rfl (hb hby d14_7) rfl (tlt (by decide : (1 : Int32) < (2 : Int32))).2.1 kk) ?_
  refine go_of (B := (T3.setTop (mkF m 11 #[.val (.ref s'), .val (.int (1 : Int32)), .val (.ref d), .val (.int (1 : Int32)), .val (.int (2 : Int32)), .val (.int (1 : Int32)), .val (.int c0)] [(.ref s')]))) (fun _ kk => XS.aloadN X3.here hx rfl (hb hby d14_10) rfl rfl kk) ?_
  refine go_of (B := (T3.setTop (mkF m 12 #[.val (.ref s'), .val (.int (1 : Int32)), .val (.ref d), .val (.int (1 : Int32)), .val (.int (2 : Int32)), .val (.int (1 : Int32)), .val (.int c0)] [(.int (1 : Int32)), (.ref s')]))) (fun _ kk => XS.iloadN X3.here hx rfl (hb hby d14_11) rfl kk) ?_
  have cf_4 := (Vs.other W3 (by first | omega | exact own_ne (by omega) | exact own_le (by omega) | exact own_lt (by omega)))
  obtain ⟨cl5, Ar5, q5, Sz5, Nn5, Hh5, G5⟩ := id (cf_4)
  refine go_of (B := (T3.setTop (mkF m 13 #[.val (.ref s'), .val (.int (1 : Int32)), .val (.ref d), .val (.int (1 : Int32)), .val (.int (2 : Int32)), .val (.int (1 : Int32)), .val (.int c0)] [(.int c1)]))) (fun _ kk => X3.caload hx (j := (1 : Int32)) (v := (.int c1)) (by rw [e3]; exact Ar5.1) (State.isArrayOf_alike hZ.alike Ar5.2.1) Ar5.2.2 (inb_of Sz5 ⟨by decide, by decide⟩) (Hh5.at (inb_of Sz5 ⟨by decide, by decide⟩) rfl) (g := (mkF m 12 #[.val (.ref s'), .val (.int (1 : Int32)), .val (.ref d), .val (.int (1 : Int32)), .val (.int (2 : Int32)), .val (.int (1 : Int32)), .val (.int c0)] [(.int (1 : Int32)), (.ref s')])) rfl rfl (hb hby d14_12) _ kk) ?_
  refine go_of (B := (T3.setTop (mkF m 15 #[.val (.ref s'), .val (.int (1 : Int32)), .val (.ref d), .val (.int (1 : Int32)), .val (.int (2 : Int32)), .val (.int (1 : Int32)), .val (.int c1)] []))) (fun _ kk => XS.istore X3.here hx rfl (hb hby d14_13) rfl rfl kk) ?_
  refine go_of (B := (T3.setTop (mkF m 17 #[.val (.ref s'), .val (.int (1 : Int32)), .val (.ref d), .val (.int (1 : Int32)), .val (.int (2 : Int32)), .val (.int (1 : Int32)), .val (.int c1)] [(.int c1)]))) (fun _ kk => XS.iload X3.here hx rfl (hb hby d14_15) rfl kk) ?_
  refine go_of (B := (T3.setTop (mkF m 20 #[.val (.ref s'), .val (.int (1 : Int32)), .val (.ref d), .val (.int (1 : Int32)), .val (.int (2 : Int32)), .val (.int (1 : Int32)), .val (.int c1)] [(.int (255 : Int32)), (.int c1)]))) (fun _ kk => XS.sipush X3.here hx rfl (hb hby d14_17) kk) ?_
  refine go_of (B := (T3.setTop (mkF m 26 #[.val (.ref s'), .val (.int (1 : Int32)), .val (.ref d), .val (.int (1 : Int32)), .val (.int (2 : Int32)), .val (.int (1 : Int32)), .val (.int c1)] []))) (fun _ kk => XS.icmpYes X3.here hx rfl (pc0 := 20) (pc' := 26) rfl (hb hby d14_20) rfl (flt hc1.2).2.2.2 (by decide) (by decide) kk) ?_
  refine go_of (B := (T3.setTop (mkF m 27 #[.val (.ref s'), .val (.int (1 : Int32)), .val (.ref d), .val (.int (1 : Int32)), .val (.int (2 : Int32)), .val (.int (1 : Int32)), .val (.int c1)] [(.ref d)]))) (fun _ kk => XS.aloadN X3.here hx rfl (hb hby d14_26) rfl rfl kk) ?_
  refine go_of (B := (T3.setTop (mkF m 28 #[.val (.ref s'), .val (.int (1 : Int32)), .val (.ref d), .val (.int (1 : Int32)), .val (.int (2 : Int32)), .val (.int (1 : Int32)), .val (.int c1)] [(.int (1 : Int32)), (.ref d)]))) (fun _ kk => XS.iloadN X3.here hx rfl (hb hby d14_27) rfl kk) ?_
  refine go_of (B := (T3.setTop (mkF m 30 #[.val (.ref s'), .val (.int (1 : Int32)), .val (.ref d), .val (.int (1 : Int32)), .val (.int (2 : Int32)), .val (.int (1 : Int32)), .val (.int c1)] [(.int c1), (.int (1 : Int32)), (.ref d)]))) (fun _ kk => XS.iload X3.here hx rfl (hb hby d14_28) rfl kk) ?_
  refine go_of (B := (T3.setTop (mkF m 31 #[.val (.ref s'), .val (.int (1 : Int32)), .val (.ref d), .val (.int (1 : Int32)), .val (.int (2 : Int32)), .val (.int (1 : Int32)), .val (.int c1)] [(.int (c1.toInt8.toInt32)), (.int (1 : Int32)), (.ref d)]))) (fun _ kk => XS.i2b X3.here hx rfl (hb hby d14_30) rfl kk) ?_
  obtain ⟨cl6, Ar6, q6, Sz6, Nn6, Hh6, G6⟩ := id (V3)
  obtain ⟨T7, h7, X7, e7, W7, st7⟩ := stB X3 hx hZ e3 Ar6 (j := (1 : Int32)) (inb_of Sz6 ⟨by decide, by decide⟩) (g := (mkF m 31 #[.val (.ref s'), .val (.int (1 : Int32)), .val (.ref d), .val (.int (1 : Int32)), .val (.int (2 : Int32)), .val (.int (1 : Int32)), .val (.int c1)] [(.int (c1.toInt8.toInt32)), (.int (1 : Int32)), (.ref d)])) rfl rfl (hb hby d14_31)
  have sz7 := W7.size
  have N7 := Fr.snoc X7 N3 (g : n0 ≤ d)
  have V7 : Arv Z h7 d kd .byte (2 : Int32) [(.int (c0.toInt8.toInt32)), (.int ((c1.toInt8.toInt32).toInt8.toInt32))] (.int (0 : Int32)) := Arv.set Ar6 q6 Sz6 Nn6 Hh6 G6 (fits_nar_byte _) W7 1 rfl (Nat.le_of_ble_eq_true rfl)
  rw [own_bb] at V7
  refine go_of (B := (T7.setTop (mkF m 32 #[.val (.ref s'), .val (.int (1 : Int32)), .val (.ref d), .val (.int (1 : Int32)), .val (.int (2 : Int32)), .val (.int (1 : Int32)), .val (.int c1)] []))) (st7) ?_
  refine go_of (B := (T7.setTop (mkF m 35 #[.val (.ref s'), .val (.int (2 : Int32)), .val (.ref d), .val (.int (1 : Int32)), .val (.int (2 : Int32)), .val (.int (1 : Int32)), .val (.int c1)] []))) (fun _ kk => XS.iinc X7.here hx rfl (hb hby d14_32) rfl rfl kk) ?_
  refine go_of (B := (T7.setTop (mkF m 38 #[.val (.ref s'), .val (.int (2 : Int32)), .val (.ref d), .val (.int (2 : Int32)), .val (.int (2 : Int32)), .val (.int (1 : Int32)), .val (.int c1)] []))) (fun _ kk => XS.iinc X7.here hx rfl (hb hby d14_35) rfl rfl kk) ?_
  refine go_of (B := (T7.setTop (mkF m 41 #[.val (.ref s'), .val (.int (2 : Int32)), .val (.ref d), .val (.int (2 : Int32)), .val (.int (2 : Int32)), .val (.int (2 : Int32)), .val (.int c1)] []))) (fun _ kk => XS.iinc X7.here hx rfl (hb hby d14_38) rfl rfl kk) ?_
  refine go_of (B := (T7.setTop (mkF m 3 #[.val (.ref s'), .val (.int (2 : Int32)), .val (.ref d), .val (.int (2 : Int32)), .val (.int (2 : Int32)), .val (.int (2 : Int32)), .val (.int c1)] []))) (fun _ kk => XS.goto X7.here hx rfl (pc0 := 41) (pc' := 3) rfl (hb hby d14_41) (by decide) (by decide) kk) ?_
  refine go_of (B := (T7.setTop (mkF m 5 #[.val (.ref s'), .val (.int (2 : Int32)), .val (.ref d), .val (.int (2 : Int32)), .val (.int (2 : Int32)), .val (.int (2 : Int32)), .val (.int c1)] [(.int (2 : Int32))]))) (fun _ kk => XS.iload X7.here hx rfl (hb hby d14_3) rfl kk) ?_
  refine go_of (B := (T7.setTop (mkF m 7 #[.val (.ref s'), .val (.int (2 : Int32)), .val (.ref d), .val (.int (2 : Int32)), .val (.int (2 : Int32)), .val (.int (2 : Int32)), .val (.int c1)] [(.int (2 : Int32)), (.int (2 : Int32))]))) (fun _ kk => XS.iload X7.here hx rfl (hb hby d14_5) rfl kk) ?_
  refine go_of (B := (T7.setTop (mkF m 44 #[.val (.ref s'), .val (.int (2 : Int32)), .val (.ref d), .val (.int (2 : Int32)), .val (.int (2 : Int32)), .val (.int (2 : Int32)), .val (.int c1)] []))) (fun _ kk => XS.icmpYes X7.here hx rfl (pc0 := 7) (pc' := 44) rfl (hb hby d14_7) rfl (flt (by decide : ¬ ((2 : Int32) < (2 : Int32)))).2.1 (by decide) (by decide) kk) ?_
  refine go_of (B := (T7.setTop (mkF m 46 #[.val (.ref s'), .val (.int (2 : Int32)), .val (.ref d), .val (.int (2 : Int32)), .val (.int (2 : Int32)), .val (.int (2 : Int32)), .val (.int c1)] [(.int (2 : Int32))]))) (fun _ kk => XS.iload X7.here hx rfl (hb hby d14_44) rfl kk) ?_
  refine go_end X7 (v := some (.int (2 : Int32))) (fun h => by rw [Bd.returns] at h; cases h) Bd.notSynchronized (by decide) (by decide) (Q := (Q_str_c5_2 Z s' d c0 c1 ks kd h0 n0)) ?_ (fun fs hr => own_retI X7 hx Bd.returns (hb hby d14_46) hr)
  show (fun (v : Option Value) (h : Heap) (L : List Loc) => v = some (.int 2) ∧ Fr n0 L ∧ Keep h0 h [d] ∧ Arv Z h d kd .byte 2 [(.int (own_b8 c0)), (.int (own_b8 c1))] (.int 0)) (some (.int (2 : Int32))) T7.heap _
  rw [e7]
  exact ⟨rfl, N7, (((Keep.refl h0 [d]).wr W3 (Or.inl (List.mem_of_getElem? (i := 0) rfl))).wr W7 (Or.inl (List.mem_of_getElem? (i := 0) rfl))), V7⟩
def Q_str_c3_2 (Z : State) (s' : Addr) (c0 : Int32) (c1 : Int32) (ks : ClassId) (h0 : Heap) (n0 : Nat) (v : Option Value) (h : Heap) (L : List Loc) : Prop := ∃ (t : Addr) (k : ClassId), v = some (.ref t) ∧ Fr n0 L ∧ h0.size ≤ t ∧ Keep h0 h [] ∧ Arv Z h t k .byte 2 [(.int (own_b8 c0)), (.int (own_b8 c1))] (.int 0)
theorem ef_str_c3_2 (m : MethodId) (s' : Addr)  : entryFrame m #[(.ref s'), (.int (0 : Int32)), (.int (2 : Int32))] 6 = mkF m 0 #[.val (.ref s'), .val (.int (0 : Int32)), .val (.int (2 : Int32)), .unset, .unset, .unset] [] := by first | (simp [entryFrame, mkF, argsToLocals, Value.category]; done) | rfl
set_option maxRecDepth 65536 in
set_option maxHeartbeats 40000000 in
theorem str_c3_2 (l : Launch) (Z : State) (a0 : Array Value) (hw : ∀ d ∈ tables_1, d.before a0 Z = true) (ws : List Jvm.Cond) (s' : Addr) (c0 : Int32) (c1 : Int32) (ks : ClassId) (h0 : Heap) (n0 : Nat) (Z0 : n0 ≤ h0.size) (Vs : Arv Z h0 s' ks .char 2 [(.int c0), (.int c1)] (.int 0)) (hc0 : ¬ c0 < 0 ∧ ¬ (255 : Int32) < c0) (hc1 : ¬ c1 < 0 ∧ ¬ (255 : Int32) < c1) :
    MetFree l (⟨"java/lang/StringUTF16", "compress", "([CII)[B"⟩ : MethodName) (head1 (Jvm.Cond.code (⟨"java/lang/StringUTF16", "compress", "([CII)[B"⟩ : MethodName) jdk_52_method_16_code 6 (some (.array .byte)) :: ws) ({ frames := 1, cells := 1, slots := 2, locals := 18 } : Room)) (fun aa' U1' => aa' = #[(.ref s'), (.int (0 : Int32)), (.int (2 : Int32))] ∧ Z.Warmed39 U1'.vm ∧ U1'.heap = h0) (fun _ _ _ _ _ => True) (fun _ U1' oo' U2' => ∃ vv' LL', oo' = .returned vv' ∧ (Q_str_c3_2 Z s' c0 c1 ks h0 n0) vv' U2'.heap LL' ∧ FrameEnd U1' oo' U2' LL' ({ frames := 1, cells := 1, slots := 2, locals := 18 } : Room).cells ({ frames := 1, cells := 1, slots := 2, locals := 18 } : Room).slots) := by
  refine MetFree.of_bodySF (plainFor_of_name pn_java_lang_StringUTF16) hisR ?_
  intro p e s m args below meth c s₁ Bd hml0 hP hK
  obtain ⟨rfl, hZ, hh⟩ := hP
  have hx := Bd.exec
  have hby := Bd.bytes
  have hml : c.maxLocals = 6 := hml0
  have hown : s.vm.findClass "java/lang/StringUTF16" = some m.cls := findClass_of_methodNamed Bd.named
  have hnm := (name_of_methodNamed Bd.named Bd.method).1
  have X0 : Stand p l e ({ frames := 1, cells := 1, slots := 2, locals := 18 } : Room) s m #[(.ref s'), (.int (0 : Int32)), (.int (2 : Int32))] below meth c s₁ [] 0 0 := Stand.of_body Bd
  have e0 : s₁.heap = h0 := by rw [← hh, Bd.state]; rfl
  have N0 := Fr.nil n0
  have lts := own_nlt (Vs.lt)
  refine go_of (A := s₁.setTop (entryFrame m #[(.ref s'), (.int (0 : Int32)), (.int (2 : Int32))] 6)) (B := s₁.setTop (mkF m 0 #[.val (.ref s'), .val (.int (0 : Int32)), .val (.int (2 : Int32)), .unset, .unset, .unset] [])) (fun _ kk' => castTop (ef_str_c3_2 m s') kk') ?_
  refine go_of (B := (s₁.setTop (mkF m 1 #[.val (.ref s'), .val (.int (0 : Int32)), .val (.int (2 : Int32)), .unset, .unset, .unset] [(.int (2 : Int32))]))) (fun _ kk => XS.iloadN X0.here hx rfl (hb hby d13_0) rfl kk) ?_
  obtain ⟨T1, h1, k1, X1, e1, E1, A1, st1⟩ := newP X0 hx hZ (hw _ (List.mem_of_getElem? (i := 25) rfl)) e0 (g := (mkF m 1 #[.val (.ref s'), .val (.int (0 : Int32)), .val (.int (2 : Int32)), .unset, .unset, .unset] [(.int (2 : Int32))])) rfl (hb hby d13_1) rfl (by decide) (cap := 2) (by decide) (by decide) (by decide) (by decide)
  obtain ⟨b1, g1⟩ : ∃ z, z = h0.size := ⟨_, rfl⟩
  rw [← g1] at A1 st1
  have hi1 := own_nlt A1.lt
  have sz1 := E1.1
  have V1 : Arv Z h1 b1 k1 .byte (2 : Int32) [(.int (0 : Int32)), (.int (0 : Int32))] (.int (0 : Int32)) := (Arv.new A1 (by decide)).pad (pad_rep [] (.int (0 : Int32)) 2)
  refine go_of (B := (T1.setTop (mkF m 3 #[.val (.ref s'), .val (.int (0 : Int32)), .val (.int (2 : Int32)), .unset, .unset, .unset] [(.ref b1)]))) (st1) ?_
  refine go_of (B := (T1.setTop (mkF m 4 #[.val (.ref s'), .val (.int (0 : Int32)), .val (.int (2 : Int32)), .val (.ref b1), .unset, .unset] []))) (fun _ kk => XS.astoreN X1.here hx rfl (hb hby d13_3) rfl rfl rfl kk) ?_
  refine go_of (B := (T1.setTop (mkF m 5 #[.val (.ref s'), .val (.int (0 : Int32)), .val (.int (2 : Int32)), .val (.ref b1), .unset, .unset] [(.ref s')]))) (fun _ kk => XS.aloadN X1.here hx rfl (hb hby d13_4) rfl rfl kk) ?_
  refine go_of (B := (T1.setTop (mkF m 6 #[.val (.ref s'), .val (.int (0 : Int32)), .val (.int (2 : Int32)), .val (.ref b1), .unset, .unset] [(.int (0 : Int32)), (.ref s')]))) (fun _ kk => XS.iloadN X1.here hx rfl (hb hby d13_5) rfl kk) ?_
  refine go_of (B := (T1.setTop (mkF m 7 #[.val (.ref s'), .val (.int (0 : Int32)), .val (.int (2 : Int32)), .val (.ref b1), .unset, .unset] [(.ref b1), (.int (0 : Int32)), (.ref s')]))) (fun _ kk => XS.aloadN X1.here hx rfl (hb hby d13_6) rfl rfl kk) ?_
  refine go_of (B := (T1.setTop (mkF m 8 #[.val (.ref s'), .val (.int (0 : Int32)), .val (.int (2 : Int32)), .val (.ref b1), .unset, .unset] [(.int (0 : Int32)), (.ref b1), (.int (0 : Int32)), (.ref s')]))) (fun _ kk => XS.iconst X1.here hx rfl (hb hby d13_7) kk) ?_
  refine go_of (B := (T1.setTop (mkF m 9 #[.val (.ref s'), .val (.int (0 : Int32)), .val (.int (2 : Int32)), .val (.ref b1), .unset, .unset] [(.int (2 : Int32)), (.int (0 : Int32)), (.ref b1), (.int (0 : Int32)), (.ref s')]))) (fun _ kk => XS.iloadN X1.here hx rfl (hb hby d13_8) rfl kk) ?_
  have cf_2 := (Vs.ext E1)
  obtain ⟨_, _, ⟨T3, L3, k3, n3⟩, -, X3, ⟨Lc3, hQ3, l3, y3, z3⟩, st3⟩ := Jvm.LawKit.callS X1 hx (y := (⟨"java/lang/StringUTF16", "compress", "([CI[BII)I"⟩ : MethodName)) hown (mvT hZ (hw _ (List.mem_of_getElem? (i := 92) rfl))) (mvT hZ (hw _ (List.mem_of_getElem? (i := 93) rfl))) (mvT hZ (hw _ (List.mem_of_getElem? (i := 90) rfl))) (mvT hZ (hw _ (List.mem_of_getElem? (i := 94) rfl))) (by decide) (backOf (W := 0) (str_c5_2 l Z a0 hw [] s' b1 c0 c1 ks k1 h1 n0 (by first | omega | exact own_ne (by omega) | exact own_le (by omega) | exact own_lt (by omega)) cf_2 V1 (by first | omega | exact own_ne (by omega) | exact own_le (by omega) | exact own_lt (by omega)) (by first | omega | exact own_ne (by omega) | exact own_le (by omega) | exact own_lt (by omega)) hc0 hc1) hZ (hw _ (List.mem_of_getElem? (i := 94) rfl)) (hw _ (List.mem_of_getElem? (i := 90) rfl)) (by decide) (by decide)) (g := (mkF m 9 #[.val (.ref s'), .val (.int (0 : Int32)), .val (.int (2 : Int32)), .val (.ref b1), .unset, .unset] [(.int (2 : Int32)), (.int (0 : Int32)), (.ref b1), (.int (0 : Int32)), (.ref s')])) rfl (by rw [hml]; rfl) (argsL := [(.ref s'), (.int (0 : Int32)), (.ref b1), (.int (0 : Int32)), (.int (2 : Int32))]) (rest := []) (lenOf pd___CI_BII_I rfl) rfl (by show 2 * 0 + _ ≤ _; exact Nat.le_of_eq rfl) (hb hby d13_9) (fun _ _ => ⟨rfl, e1, (by decide : 1 + 0 ≤ _), (by decide : 2 + 0 ≤ _)⟩)
  dsimp only [Pt.U, Pt.locs, Pt.cells, Pt.slots] at X3 l3 y3 z3 st3 hQ3
  subst l3 y3 z3
  obtain ⟨rfl, N3q, K3, V3⟩ := hQ3
  have N3 := Fr.app N0 N3q
  have sz3 := K3.1
  refine go_of (B := (T3.setTop (mkF m 12 #[.val (.ref s'), .val (.int (0 : Int32)), .val (.int (2 : Int32)), .val (.ref b1), .unset, .unset] [(.int (2 : Int32))]))) (st3) ?_
  refine go_of (B := (T3.setTop (mkF m 14 #[.val (.ref s'), .val (.int (0 : Int32)), .val (.int (2 : Int32)), .val (.ref b1), .val (.int (2 : Int32)), .unset] []))) (fun _ kk => XS.istore X3.here hx rfl (hb hby d13_12) rfl rfl kk) ?_
  refine go_of (B := (T3.setTop (mkF m 16 #[.val (.ref s'), .val (.int (0 : Int32)), .val (.int (2 : Int32)), .val (.ref b1), .val (.int (2 : Int32)), .unset] [(.int (2 : Int32))]))) (fun _ kk => XS.iload X3.here hx rfl (hb hby d13_14) rfl kk) ?_
  refine go_of (B := (T3.setTop (mkF m 17 #[.val (.ref s'), .val (.int (0 : Int32)), .val (.int (2 : Int32)), .val (.ref b1), .val (.int (2 : Int32)), .unset] [(.int (2 : Int32)), (.int (2 : Int32))]))) (fun _ kk => XS.iloadN X3.here hx rfl (hb hby d13_16) rfl kk) ?_
  refine go_of (B := (T3.setTop (mkF m 57 #[.val (.ref s'), .val (.int (0 : Int32)), .val (.int (2 : Int32)), .val (.ref b1), .val (.int (2 : Int32)), .unset] []))) (fun _ kk => XS.icmpYes X3.here hx rfl (pc0 := 17) (pc' := 57) rfl (hb hby d13_17) rfl (teq (by decide : (2 : Int32) = (2 : Int32))).1 (by decide) (by decide) kk) ?_
  refine go_of (B := (T3.setTop (mkF m 58 #[.val (.ref s'), .val (.int (0 : Int32)), .val (.int (2 : Int32)), .val (.ref b1), .val (.int (2 : Int32)), .unset] [(.ref b1)]))) (fun _ kk => XS.aloadN X3.here hx rfl (hb hby d13_57) rfl rfl kk) ?_
  refine go_end X3 (v := some (.ref b1)) (fun h => by rw [Bd.returns] at h; cases h) Bd.notSynchronized (by decide) (by decide) (Q := (Q_str_c3_2 Z s' c0 c1 ks h0 n0)) ?_ (fun fs hr => own_retA X3 hx Bd.returns rfl rfl (hb hby d13_58) hr)
  show (fun (v : Option Value) (h : Heap) (L : List Loc) => ∃ (t : Addr) (k : ClassId), v = some (.ref t) ∧ Fr n0 L ∧ h0.size ≤ t ∧ Keep h0 h [] ∧ Arv Z h t k .byte 2 [(.int (own_b8 c0)), (.int (own_b8 c1))] (.int 0)) (some (.ref b1)) T3.heap _
  exact ⟨b1, k1, rfl, N3, by omega, (((Keep.refl h0 []).ext E1).trans K3 (allS (Or.inr (by first | omega | exact own_ne (by omega) | exact own_le (by omega) | exact own_lt (by omega))) all0)), V3⟩
def Q_str_cf_2 (Z : State) (t : Addr) (k : ClassId) (vs : List Value) (h0 : Heap) (n0 : Nat) (v : Option Value) (h : Heap) (L : List Loc) : Prop := v = some (.int 0) ∧ Fr n0 L ∧ h = h0
theorem ef_str_cf_2 (m : MethodId) (t : Addr)  : entryFrame m #[(.ref t), (.int (2 : Int32))] 2 = mkF m 0 #[.val (.ref t), .val (.int (2 : Int32))] [] := by first | (simp [entryFrame, mkF, argsToLocals, Value.category]; done) | rfl
set_option maxRecDepth 65536 in
set_option maxHeartbeats 40000000 in
theorem str_cf_2 (l : Launch) (Z : State) (a0 : Array Value) (hw : ∀ d ∈ tables_1, d.before a0 Z = true) (ws : List Jvm.Cond) (t : Addr) (k : ClassId) (vs : List Value) (h0 : Heap) (n0 : Nat) (Z0 : n0 ≤ h0.size) (V : Arv Z h0 t k .byte 2 vs (.int 0)) :
    MetFree l (⟨"java/lang/StringUTF16", "coderFromArrayLen", "([BI)B"⟩ : MethodName) (head1 (Jvm.Cond.code (⟨"java/lang/StringUTF16", "coderFromArrayLen", "([BI)B"⟩ : MethodName) jdk_52_method_15_code 2 (some .byte) :: ws) ({ frames := 0, cells := 0, slots := 0, locals := 0 } : Room)) (fun aa' U1' => aa' = #[(.ref t), (.int (2 : Int32))] ∧ Z.Warmed39 U1'.vm ∧ U1'.heap = h0) (fun _ _ _ _ _ => True) (fun _ U1' oo' U2' => ∃ vv' LL', oo' = .returned vv' ∧ (Q_str_cf_2 Z t k vs h0 n0) vv' U2'.heap LL' ∧ FrameEnd U1' oo' U2' LL' ({ frames := 0, cells := 0, slots := 0, locals := 0 } : Room).cells ({ frames := 0, cells := 0, slots := 0, locals := 0 } : Room).slots) := by
  refine MetFree.of_bodySF (plainFor_of_name pn_java_lang_StringUTF16) hisR ?_
  intro p e s m args below meth c s₁ Bd hml0 hP hK
  obtain ⟨rfl, hZ, hh⟩ := hP
  have hx := Bd.exec
  have hby := Bd.bytes
  have hml : c.maxLocals = 2 := hml0
  have hown : s.vm.findClass "java/lang/StringUTF16" = some m.cls := findClass_of_methodNamed Bd.named
  have hnm := (name_of_methodNamed Bd.named Bd.method).1
  have X0 : Stand p l e ({ frames := 0, cells := 0, slots := 0, locals := 0 } : Room) s m #[(.ref t), (.int (2 : Int32))] below meth c s₁ [] 0 0 := Stand.of_body Bd
  have e0 : s₁.heap = h0 := by rw [← hh, Bd.state]; rfl
  have N0 := Fr.nil n0
  refine go_of (A := s₁.setTop (entryFrame m #[(.ref t), (.int (2 : Int32))] 2)) (B := s₁.setTop (mkF m 0 #[.val (.ref t), .val (.int (2 : Int32))] [])) (fun _ kk' => castTop (ef_str_cf_2 m t) kk') ?_
  refine go_of (B := (s₁.setTop (mkF m 1 #[.val (.ref t), .val (.int (2 : Int32))] [(.int (2 : Int32))]))) (fun _ kk => XS.iloadN X0.here hx rfl (hb hby d15_0) rfl kk) ?_
  refine go_of (B := (s₁.setTop (mkF m 2 #[.val (.ref t), .val (.int (2 : Int32))] [(.ref t), (.int (2 : Int32))]))) (fun _ kk => XS.aloadN X0.here hx rfl (hb hby d15_1) rfl rfl kk) ?_
  obtain ⟨cl1, Ar1, q1, Sz1, Nn1, Hh1, G1⟩ := id (V)
  have ln1 := len_of Sz1 Nn1
  refine go_of (B := (s₁.setTop (mkF m 3 #[.val (.ref t), .val (.int (2 : Int32))] [(.int (2 : Int32)), (.int (2 : Int32))]))) (fun _ kk => X0.arraylength hx (by rw [e0]; exact Ar1.1) (State.isArrayOf_alike hZ.alike Ar1.2.1) (g := (mkF m 2 #[.val (.ref t), .val (.int (2 : Int32))] [(.ref t), (.int (2 : Int32))])) rfl rfl (hb hby d15_2) _ (by rw [ln1]; exact kk)) ?_
  refine go_of (B := (s₁.setTop (mkF m 4 #[.val (.ref t), .val (.int (2 : Int32))] [(.int (0 : Int32))]))) (fun _ kk => XS.isub X0.here hx rfl (hb hby d15_3) rfl kk) ?_
  refine go_of (B := (s₁.setTop (mkF m 6 #[.val (.ref t), .val (.int (2 : Int32))] [(.int (31 : Int32)), (.int (0 : Int32))]))) (fun _ kk => XS.bipush X0.here hx rfl (hb hby d15_4) kk) ?_
  refine go_of (B := (s₁.setTop (mkF m 7 #[.val (.ref t), .val (.int (2 : Int32))] [(.int (0 : Int32))]))) (fun _ kk => XS.iushr X0.here hx rfl (hb hby d15_6) rfl kk) ?_
  refine go_of (B := (s₁.setTop (mkF m 8 #[.val (.ref t), .val (.int (2 : Int32))] [(.int (0 : Int32))]))) (fun _ kk => XS.i2b X0.here hx rfl (hb hby d15_7) rfl kk) ?_
  refine go_end X0 (v := some (.int (nar .byte (0 : Int32)))) (fun h => by rw [Bd.returns] at h; cases h) Bd.notSynchronized (by decide) (by decide) (Q := (Q_str_cf_2 Z t k vs h0 n0)) ?_ (fun fs hr => retN X0 hx (t := .byte) Bd.returns (by simp) (hb hby d15_8) hr)
  show (fun (v : Option Value) (h : Heap) (L : List Loc) => v = some (.int 0) ∧ Fr n0 L ∧ h = h0) (some (.int (nar .byte (0 : Int32)))) s₁.heap _
  rw [e0]
  exact ⟨rfl, N0, rfl⟩
def Q_str_i4_2 (Z : State) (a : Addr) (s' : Addr) (c0 : Int32) (c1 : Int32) (ks : ClassId) (gC : Int32) (u : Value) (u2 : Value) (h0 : Heap) (n0 : Nat) (v : Option Value) (h : Heap) (L : List Loc) : Prop := v = none ∧ Fr n0 L ∧ Keep h0 h [a] ∧ Str Z h a 2 [c0, c1]
theorem ef_str_i4_2 (m : MethodId) (a : Addr) (s' : Addr)  : entryFrame m #[(.ref a), (.ref s'), (.int (0 : Int32)), (.int (2 : Int32)), .null] 6 = mkF m 0 #[.val (.ref a), .val (.ref s'), .val (.int (0 : Int32)), .val (.int (2 : Int32)), .val .null, .unset] [] := by first | (simp [entryFrame, mkF, argsToLocals, Value.category]; done) | rfl
set_option maxRecDepth 65536 in
set_option maxHeartbeats 40000000 in
theorem str_i4_2 (l : Launch) (Z : State) (a0 : Array Value) (hw : ∀ d ∈ tables_1, d.before a0 Z = true) (ws : List Jvm.Cond) (a : Addr) (s' : Addr) (c0 : Int32) (c1 : Int32) (ks : ClassId) (gC : Int32) (u : Value) (u2 : Value) (h0 : Heap) (n0 : Nat) (Z0 : n0 ≤ h0.size) (O : Old Z n0 h0) (SC : Sta Z Z.heap "java/lang/String" "COMPACT_STRINGS" "Z" (.int gC)) (hgC : ¬ gC = (0 : Int32)) (E : Exa Z h0 a "java/lang/String") (F : Fld Z h0 a "java/lang/String" "value" "[B" u) (F2 : Fld Z h0 a "java/lang/String" "coder" "B" u2) (g : n0 ≤ a) (Vs : Arv Z h0 s' ks .char 2 [(.int c0), (.int c1)] (.int 0)) (hc0 : ¬ c0 < 0 ∧ ¬ (255 : Int32) < c0) (hc1 : ¬ c1 < 0 ∧ ¬ (255 : Int32) < c1) :
    MetFree l (⟨"java/lang/String", "<init>", "([CIILjava/lang/Void;)V"⟩ : MethodName) (head1 (Jvm.Cond.code (⟨"java/lang/String", "<init>", "([CIILjava/lang/Void;)V"⟩ : MethodName) jdk_42_method_149_code 6 none :: ws) ({ frames := 2, cells := 1, slots := 2, locals := 35 } : Room)) (fun aa' U1' => aa' = #[(.ref a), (.ref s'), (.int (0 : Int32)), (.int (2 : Int32)), .null] ∧ Z.Warmed39 U1'.vm ∧ U1'.heap = h0) (fun _ _ _ _ _ => True) (fun _ U1' oo' U2' => ∃ vv' LL', oo' = .returned vv' ∧ (Q_str_i4_2 Z a s' c0 c1 ks gC u u2 h0 n0) vv' U2'.heap LL' ∧ FrameEnd U1' oo' U2' LL' ({ frames := 2, cells := 1, slots := 2, locals := 35 } : Room).cells ({ frames := 2, cells := 1, slots := 2, locals := 35 } : Room).slots) := by
  refine MetFree.of_bodySF (plainFor_of_name pn_java_lang_String) hisR ?_
  intro p e s m args below meth c s₁ Bd hml0 hP hK
  obtain ⟨rfl, hZ, hh⟩ := hP
  have hx := Bd.exec
  have hby := Bd.bytes
  have hml : c.maxLocals = 6 := hml0
  have hown : s.vm.findClass "java/lang/String" = some m.cls := findClass_of_methodNamed Bd.named
  have hnm := (name_of_methodNamed Bd.named Bd.method).1
  have X0 : Stand p l e ({ frames := 2, cells := 1, slots := 2, locals := 35 } : Room) s m #[(.ref a), (.ref s'), (.int (0 : Int32)), (.int (2 : Int32)), .null] below meth c s₁ [] 0 0 := Stand.of_body Bd
  have e0 : s₁.heap = h0 := by rw [← hh, Bd.state]; rfl
  have N0 := Fr.nil n0
  have lta := own_nlt (E.lt)
  have lts := own_nlt (Vs.lt)
  refine go_of (A := s₁.setTop (entryFrame m #[(.ref a), (.ref s'), (.int (0 : Int32)), (.int (2 : Int32)), .null] 6)) (B := s₁.setTop (mkF m 0 #[.val (.ref a), .val (.ref s'), .val (.int (0 : Int32)), .val (.int (2 : Int32)), .val .null, .unset] [])) (fun _ kk' => castTop (ef_str_i4_2 m a s') kk') ?_
  refine go_of (B := (s₁.setTop (mkF m 1 #[.val (.ref a), .val (.ref s'), .val (.int (0 : Int32)), .val (.int (2 : Int32)), .val .null, .unset] [(.ref a)]))) (fun _ kk => XS.aloadN X0.here hx rfl (hb hby d4_0) rfl rfl kk) ?_
  obtain ⟨T1, X1, e1, st1⟩ := initO X0 hx hZ hown (hw _ (List.mem_of_getElem? (i := 21) rfl)) (hw _ (List.mem_of_getElem? (i := 22) rfl)) (hw _ (List.mem_of_getElem? (i := 23) rfl)) e0 (g := (mkF m 1 #[.val (.ref a), .val (.ref s'), .val (.int (0 : Int32)), .val (.int (2 : Int32)), .val .null, .unset] [(.ref a)])) rfl (by rw [hml]; rfl) rfl (hb hby d4_1) (by decide) (W := 0) (by show 2 * 0 + _ ≤ _; exact Nat.le_of_eq rfl) (by decide)
  refine go_of (B := (T1.setTop (mkF m 4 #[.val (.ref a), .val (.ref s'), .val (.int (0 : Int32)), .val (.int (2 : Int32)), .val .null, .unset] []))) (st1) ?_
  refine go_of (B := (T1.setTop (mkF m 5 #[.val (.ref a), .val (.ref s'), .val (.int (0 : Int32)), .val (.int (2 : Int32)), .val .null, .unset] [(.int (2 : Int32))]))) (fun _ kk => XS.iloadN X1.here hx rfl (hb hby d4_4) rfl kk) ?_
  refine go_of (B := (T1.setTop (mkF m 27 #[.val (.ref a), .val (.ref s'), .val (.int (0 : Int32)), .val (.int (2 : Int32)), .val .null, .unset] []))) (fun _ kk => XS.ifYes X1.here hx rfl (pc0 := 5) (pc' := 27) rfl (hb hby d4_5) rfl ((if0 _ _).trans (feq (by decide : ¬ ((2 : Int32) = (0 : Int32)))).2) (by decide) (by decide) kk) ?_
  obtain ⟨T2, X2, e2, st2⟩ := getS2 X1 hx hZ hown (host := "") (Or.inl (hw _ (List.mem_of_getElem? (i := 66) rfl))) Via.refl e1 (SC.ext O.2) (g := (mkF m 27 #[.val (.ref a), .val (.ref s'), .val (.int (0 : Int32)), .val (.int (2 : Int32)), .val .null, .unset] [])) rfl (hb hby d4_27)
  refine go_of (B := (T2.setTop (mkF m 30 #[.val (.ref a), .val (.ref s'), .val (.int (0 : Int32)), .val (.int (2 : Int32)), .val .null, .unset] [(.int gC)]))) (st2) ?_
  refine go_of (B := (T2.setTop (mkF m 33 #[.val (.ref a), .val (.ref s'), .val (.int (0 : Int32)), .val (.int (2 : Int32)), .val .null, .unset] []))) (fun _ kk => XS.ifNo X2.here hx rfl (hb hby d4_30) rfl ((if0 _ _).trans (feq hgC).1) kk) ?_
  refine go_of (B := (T2.setTop (mkF m 34 #[.val (.ref a), .val (.ref s'), .val (.int (0 : Int32)), .val (.int (2 : Int32)), .val .null, .unset] [(.ref s')]))) (fun _ kk => XS.aloadN X2.here hx rfl (hb hby d4_33) rfl rfl kk) ?_
  refine go_of (B := (T2.setTop (mkF m 35 #[.val (.ref a), .val (.ref s'), .val (.int (0 : Int32)), .val (.int (2 : Int32)), .val .null, .unset] [(.int (0 : Int32)), (.ref s')]))) (fun _ kk => XS.iloadN X2.here hx rfl (hb hby d4_34) rfl kk) ?_
  refine go_of (B := (T2.setTop (mkF m 36 #[.val (.ref a), .val (.ref s'), .val (.int (0 : Int32)), .val (.int (2 : Int32)), .val .null, .unset] [(.int (2 : Int32)), (.int (0 : Int32)), (.ref s')]))) (fun _ kk => XS.iloadN X2.here hx rfl (hb hby d4_35) rfl kk) ?_
  obtain ⟨_, _, ⟨T3, L3, k3, n3⟩, -, X3, ⟨Lc3, hQ3, l3, y3, z3⟩, st3⟩ := Jvm.LawKit.callS X2 hx (y := (⟨"java/lang/StringUTF16", "compress", "([CII)[B"⟩ : MethodName)) hown (mvT hZ (hw _ (List.mem_of_getElem? (i := 88) rfl))) (mvT hZ (hw _ (List.mem_of_getElem? (i := 89) rfl))) (mvT hZ (hw _ (List.mem_of_getElem? (i := 90) rfl))) (mvT hZ (hw _ (List.mem_of_getElem? (i := 91) rfl))) (by decide) (backOf (W := 0) (str_c3_2 l Z a0 hw [] s' c0 c1 ks h0 n0 (by first | omega | exact own_ne (by omega) | exact own_le (by omega) | exact own_lt (by omega)) Vs hc0 hc1) hZ (hw _ (List.mem_of_getElem? (i := 91) rfl)) (hw _ (List.mem_of_getElem? (i := 90) rfl)) (by decide) (by decide)) (g := (mkF m 36 #[.val (.ref a), .val (.ref s'), .val (.int (0 : Int32)), .val (.int (2 : Int32)), .val .null, .unset] [(.int (2 : Int32)), (.int (0 : Int32)), (.ref s')])) rfl (by rw [hml]; rfl) (argsL := [(.ref s'), (.int (0 : Int32)), (.int (2 : Int32))]) (rest := []) (lenOf pd___CII__B rfl) rfl (by show 2 * 0 + _ ≤ _; exact Nat.le_of_eq rfl) (hb hby d4_36) (fun _ _ => ⟨rfl, e2, (by decide : 0 + 1 ≤ _), (by decide : 0 + 2 ≤ _)⟩)
  dsimp only [Pt.U, Pt.locs, Pt.cells, Pt.slots] at X3 l3 y3 z3 st3 hQ3
  subst l3 y3 z3
  obtain ⟨b3, k3, rfl, N3q, lo3, K3, V3⟩ := hQ3
  have lo3 := own_nle lo3
  have N3 := Fr.app N0 N3q
  have hi3 := own_nlt (V3.lt)
  have sz3 := K3.1
  refine go_of (B := (T3.setTop (mkF m 39 #[.val (.ref a), .val (.ref s'), .val (.int (0 : Int32)), .val (.int (2 : Int32)), .val .null, .unset] [(.ref b3)]))) (st3) ?_
  refine go_of (B := (T3.setTop (mkF m 41 #[.val (.ref a), .val (.ref s'), .val (.int (0 : Int32)), .val (.int (2 : Int32)), .val .null, .val (.ref b3)] []))) (fun _ kk => XS.astore X3.here hx rfl (hb hby d4_39) rfl rfl rfl kk) ?_
  refine go_of (B := (T3.setTop (mkF m 42 #[.val (.ref a), .val (.ref s'), .val (.int (0 : Int32)), .val (.int (2 : Int32)), .val .null, .val (.ref b3)] [(.ref a)]))) (fun _ kk => XS.aloadN X3.here hx rfl (hb hby d4_41) rfl rfl kk) ?_
  refine go_of (B := (T3.setTop (mkF m 44 #[.val (.ref a), .val (.ref s'), .val (.int (0 : Int32)), .val (.int (2 : Int32)), .val .null, .val (.ref b3)] [(.ref b3), (.ref a)]))) (fun _ kk => XS.aload X3.here hx rfl (hb hby d4_42) rfl rfl kk) ?_
  refine go_of (B := (T3.setTop (mkF m 45 #[.val (.ref a), .val (.ref s'), .val (.int (0 : Int32)), .val (.int (2 : Int32)), .val .null, .val (.ref b3)] [(.int (2 : Int32)), (.ref b3), (.ref a)]))) (fun _ kk => XS.iloadN X3.here hx rfl (hb hby d4_44) rfl kk) ?_
  obtain ⟨_, _, ⟨T4, L4, k4, n4⟩, -, X4, ⟨Lc4, hQ4, l4, y4, z4⟩, st4⟩ := Jvm.LawKit.callS X3 hx (y := (⟨"java/lang/StringUTF16", "coderFromArrayLen", "([BI)B"⟩ : MethodName)) hown (mvT hZ (hw _ (List.mem_of_getElem? (i := 95) rfl))) (mvT hZ (hw _ (List.mem_of_getElem? (i := 96) rfl))) (mvT hZ (hw _ (List.mem_of_getElem? (i := 90) rfl))) (mvT hZ (hw _ (List.mem_of_getElem? (i := 97) rfl))) (by decide) (backOf (W := 1) (str_cf_2 l Z a0 hw [] b3 k3 _ T3.heap n0 (by first | omega | exact own_ne (by omega) | exact own_le (by omega) | exact own_lt (by omega)) V3) hZ (hw _ (List.mem_of_getElem? (i := 97) rfl)) (hw _ (List.mem_of_getElem? (i := 90) rfl)) (by decide) (by decide)) (g := (mkF m 45 #[.val (.ref a), .val (.ref s'), .val (.int (0 : Int32)), .val (.int (2 : Int32)), .val .null, .val (.ref b3)] [(.int (2 : Int32)), (.ref b3), (.ref a)])) rfl (by rw [hml]; rfl) (argsL := [(.ref b3), (.int (2 : Int32))]) (rest := [(.ref a)]) (lenOf pd___BI_B rfl) rfl (by show 2 * 0 + _ ≤ _; exact Nat.le_of_eq rfl) (hb hby d4_45) (fun _ _ => ⟨rfl, rfl, (by decide : 1 + 0 ≤ _), (by decide : 2 + 0 ≤ _)⟩)
  dsimp only [Pt.U, Pt.locs, Pt.cells, Pt.slots] at X4 l4 y4 z4 st4 hQ4
  subst l4 y4 z4
  obtain ⟨rfl, N4q, e4⟩ := hQ4
  have N4 := Fr.app N3 N4q
  refine go_of (B := (T4.setTop (mkF m 48 #[.val (.ref a), .val (.ref s'), .val (.int (0 : Int32)), .val (.int (2 : Int32)), .val .null, .val (.ref b3)] [(.int (0 : Int32)), (.ref a)]))) (st4) ?_
  have cf_5 := (E.keep K3)
  have cf_6 := (F2.keep K3 nin0)
  obtain ⟨T7, h7, X7, e7, W7, st7⟩ := putFN X4 hx hZ hown (hw _ (List.mem_of_getElem? (i := 31) rfl)) Via.refl e4 cf_6 cf_5 (Or.inr ⟨(hw _ (List.mem_of_getElem? (i := 27) rfl)), rfl, hnm⟩) (hw _ (List.mem_of_getElem? (i := 11) rfl)) (ty := .byte) (v' := (.int (nar .byte (0 : Int32)))) (by decide) rfl (fits_nar_byte _) (g := (mkF m 48 #[.val (.ref a), .val (.ref s'), .val (.int (0 : Int32)), .val (.int (2 : Int32)), .val .null, .val (.ref b3)] [(.int (0 : Int32)), (.ref a)])) rfl rfl (hb hby d4_48)
  have sz7 := W7.size
  have Fw7 := cf_6.same W7
  have N7 := Fr.snoc X7 N4 (g : n0 ≤ a)
  refine go_of (B := (T7.setTop (mkF m 51 #[.val (.ref a), .val (.ref s'), .val (.int (0 : Int32)), .val (.int (2 : Int32)), .val .null, .val (.ref b3)] []))) (st7) ?_
  refine go_of (B := (T7.setTop (mkF m 52 #[.val (.ref a), .val (.ref s'), .val (.int (0 : Int32)), .val (.int (2 : Int32)), .val .null, .val (.ref b3)] [(.ref a)]))) (fun _ kk => XS.aloadN X7.here hx rfl (hb hby d4_51) rfl rfl kk) ?_
  refine go_of (B := (T7.setTop (mkF m 54 #[.val (.ref a), .val (.ref s'), .val (.int (0 : Int32)), .val (.int (2 : Int32)), .val .null, .val (.ref b3)] [(.ref b3), (.ref a)]))) (fun _ kk => XS.aload X7.here hx rfl (hb hby d4_52) rfl rfl kk) ?_
  have cf_8 := (cf_5.wr W7)
  have cf_9 := ((F.keep K3 nin0).other W7 (Or.inr (slot_ne (Or.inr (hw _ (List.mem_of_getElem? (i := 26) rfl))) (Or.inr (hw _ (List.mem_of_getElem? (i := 27) rfl))) (by decide) (t := (.array .byte)) (t' := .byte) (by decide) (by decide))))
  obtain ⟨T10, h10, X10, e10, W10, st10⟩ := putF X7 hx hZ hown (host := "") (Or.inl (hw _ (List.mem_of_getElem? (i := 30) rfl))) Via.refl e7 cf_9 cf_8 (Or.inr ⟨(hw _ (List.mem_of_getElem? (i := 26) rfl)), rfl, hnm⟩) (hw _ (List.mem_of_getElem? (i := 11) rfl)) (ty := (.array .byte)) (by decide) rfl rfl (g := (mkF m 54 #[.val (.ref a), .val (.ref s'), .val (.int (0 : Int32)), .val (.int (2 : Int32)), .val .null, .val (.ref b3)] [(.ref b3), (.ref a)])) rfl rfl (hb hby d4_54)
  have sz10 := W10.size
  have Fw10 := cf_9.same W10
  have N10 := Fr.snoc X10 N7 (g : n0 ≤ a)
  refine go_of (B := (T10.setTop (mkF m 57 #[.val (.ref a), .val (.ref s'), .val (.int (0 : Int32)), .val (.int (2 : Int32)), .val .null, .val (.ref b3)] []))) (st10) ?_
  have cf_11 := ((V3.other W7 (by first | omega | exact own_ne (by omega) | exact own_le (by omega) | exact own_lt (by omega))).other W10 (by first | omega | exact own_ne (by omega) | exact own_le (by omega) | exact own_lt (by omega)))
  have cf_12 := (Fw7.other W10 (Or.inr (slot_ne (Or.inr (hw _ (List.mem_of_getElem? (i := 27) rfl))) (Or.inr (hw _ (List.mem_of_getElem? (i := 26) rfl))) (by decide) (t := .byte) (t' := (.array .byte)) (by decide) (by decide))))
  have cf_13 := (cf_8.wr W10)
  refine go_end X10 (v := none) (fun _ => rfl) Bd.notSynchronized (by decide) (by decide) (Q := (Q_str_i4_2 Z a s' c0 c1 ks gC u u2 h0 n0)) ?_ (fun fs hr => X10.returnOut hx Bd.returns (hb hby d4_57) hr)
  show (fun (v : Option Value) (h : Heap) (L : List Loc) => v = none ∧ Fr n0 L ∧ Keep h0 h [a] ∧ Str Z h a 2 [c0, c1]) (none) T10.heap _
  rw [e10]
  exact ⟨rfl, N10, ((((Keep.refl h0 [a]).trans K3 all0).wr W7 (Or.inl (List.mem_of_getElem? (i := 0) rfl))).wr W10 (Or.inl (List.mem_of_getElem? (i := 0) rfl))), ⟨b3, k3, cf_13, cf_12, Fw10, cf_11, (own_allc hc0 (own_allc hc1 (fun _ q => nomatch q)))⟩⟩
def Q_str_i1_2 (Z : State) (a : Addr) (s' : Addr) (c0 : Int32) (c1 : Int32) (ks : ClassId) (gC : Int32) (u : Value) (u2 : Value) (h0 : Heap) (n0 : Nat) (v : Option Value) (h : Heap) (L : List Loc) : Prop := v = none ∧ Fr n0 L ∧ Keep h0 h [a] ∧ Str Z h a 2 [c0, c1]
theorem ef_str_i1_2 (m : MethodId) (a : Addr) (s' : Addr)  : entryFrame m #[(.ref a), (.ref s')] 2 = mkF m 0 #[.val (.ref a), .val (.ref s')] [] := by first | (simp [entryFrame, mkF, argsToLocals, Value.category]; done) | rfl
set_option maxRecDepth 65536 in
set_option maxHeartbeats 40000000 in
theorem str_i1_2 (l : Launch) (Z : State) (a0 : Array Value) (hw : ∀ d ∈ tables_1, d.before a0 Z = true) (ws : List Jvm.Cond) (a : Addr) (s' : Addr) (c0 : Int32) (c1 : Int32) (ks : ClassId) (gC : Int32) (u : Value) (u2 : Value) (h0 : Heap) (n0 : Nat) (Z0 : n0 ≤ h0.size) (O : Old Z n0 h0) (SC : Sta Z Z.heap "java/lang/String" "COMPACT_STRINGS" "Z" (.int gC)) (hgC : ¬ gC = (0 : Int32)) (E : Exa Z h0 a "java/lang/String") (F : Fld Z h0 a "java/lang/String" "value" "[B" u) (F2 : Fld Z h0 a "java/lang/String" "coder" "B" u2) (g : n0 ≤ a) (Vs : Arv Z h0 s' ks .char 2 [(.int c0), (.int c1)] (.int 0)) (hc0 : ¬ c0 < 0 ∧ ¬ (255 : Int32) < c0) (hc1 : ¬ c1 < 0 ∧ ¬ (255 : Int32) < c1) :
    MetFree l (⟨"java/lang/String", "<init>", "([C)V"⟩ : MethodName) (head1 (Jvm.Cond.code (⟨"java/lang/String", "<init>", "([C)V"⟩ : MethodName) jdk_42_method_3_code 2 none :: ws) ({ frames := 3, cells := 1, slots := 2, locals := 52 } : Room)) (fun aa' U1' => aa' = #[(.ref a), (.ref s')] ∧ Z.Warmed39 U1'.vm ∧ U1'.heap = h0) (fun _ _ _ _ _ => True) (fun _ U1' oo' U2' => ∃ vv' LL', oo' = .returned vv' ∧ (Q_str_i1_2 Z a s' c0 c1 ks gC u u2 h0 n0) vv' U2'.heap LL' ∧ FrameEnd U1' oo' U2' LL' ({ frames := 3, cells := 1, slots := 2, locals := 52 } : Room).cells ({ frames := 3, cells := 1, slots := 2, locals := 52 } : Room).slots) := by
  refine MetFree.of_bodySF (plainFor_of_name pn_java_lang_String) hisR ?_
  intro p e s m args below meth c s₁ Bd hml0 hP hK
  obtain ⟨rfl, hZ, hh⟩ := hP
  have hx := Bd.exec
  have hby := Bd.bytes
  have hml : c.maxLocals = 2 := hml0
  have hown : s.vm.findClass "java/lang/String" = some m.cls := findClass_of_methodNamed Bd.named
  have hnm := (name_of_methodNamed Bd.named Bd.method).1
  have X0 : Stand p l e ({ frames := 3, cells := 1, slots := 2, locals := 52 } : Room) s m #[(.ref a), (.ref s')] below meth c s₁ [] 0 0 := Stand.of_body Bd
  have e0 : s₁.heap = h0 := by rw [← hh, Bd.state]; rfl
  have N0 := Fr.nil n0
  have lta := own_nlt (E.lt)
  have lts := own_nlt (Vs.lt)
  refine go_of (A := s₁.setTop (entryFrame m #[(.ref a), (.ref s')] 2)) (B := s₁.setTop (mkF m 0 #[.val (.ref a), .val (.ref s')] [])) (fun _ kk' => castTop (ef_str_i1_2 m a s') kk') ?_
  refine go_of (B := (s₁.setTop (mkF m 1 #[.val (.ref a), .val (.ref s')] [(.ref a)]))) (fun _ kk => XS.aloadN X0.here hx rfl (hb hby d3_0) rfl rfl kk) ?_
  refine go_of (B := (s₁.setTop (mkF m 2 #[.val (.ref a), .val (.ref s')] [(.ref s'), (.ref a)]))) (fun _ kk => XS.aloadN X0.here hx rfl (hb hby d3_1) rfl rfl kk) ?_
  refine go_of (B := (s₁.setTop (mkF m 3 #[.val (.ref a), .val (.ref s')] [(.int (0 : Int32)), (.ref s'), (.ref a)]))) (fun _ kk => XS.iconst X0.here hx rfl (hb hby d3_2) kk) ?_
  refine go_of (B := (s₁.setTop (mkF m 4 #[.val (.ref a), .val (.ref s')] [(.ref s'), (.int (0 : Int32)), (.ref s'), (.ref a)]))) (fun _ kk => XS.aloadN X0.here hx rfl (hb hby d3_3) rfl rfl kk) ?_
  obtain ⟨cl1, Ar1, q1, Sz1, Nn1, Hh1, G1⟩ := id (Vs)
  have ln1 := len_of Sz1 Nn1
  refine go_of (B := (s₁.setTop (mkF m 5 #[.val (.ref a), .val (.ref s')] [(.int (2 : Int32)), (.int (0 : Int32)), (.ref s'), (.ref a)]))) (fun _ kk => X0.arraylength hx (by rw [e0]; exact Ar1.1) (State.isArrayOf_alike hZ.alike Ar1.2.1) (g := (mkF m 4 #[.val (.ref a), .val (.ref s')] [(.ref s'), (.int (0 : Int32)), (.ref s'), (.ref a)])) rfl rfl (hb hby d3_4) _ (by rw [ln1]; exact kk)) ?_
  refine go_of (B := (s₁.setTop (mkF m 6 #[.val (.ref a), .val (.ref s')] [.null, (.int (2 : Int32)), (.int (0 : Int32)), (.ref s'), (.ref a)]))) (fun _ kk => XS.aconstNull X0.here hx rfl (hb hby d3_5) kk) ?_
  obtain ⟨_, _, ⟨T2, L2, k2, n2⟩, -, X2, ⟨Lc2, hQ2, l2, y2, z2⟩, st2⟩ := X0.specialBack hx (y := (⟨"java/lang/String", "<init>", "([CIILjava/lang/Void;)V"⟩ : MethodName)) rfl hown (mvT hZ (hw _ (List.mem_of_getElem? (i := 17) rfl))) (mvT hZ (hw _ (List.mem_of_getElem? (i := 18) rfl))) (mvT hZ (hw _ (List.mem_of_getElem? (i := 20) rfl))) (by decide) (backOf (W := 0) (str_i4_2 l Z a0 hw [] a s' c0 c1 ks gC u u2 h0 n0 Z0 O SC hgC E F F2 g Vs hc0 hc1) hZ (hw _ (List.mem_of_getElem? (i := 20) rfl)) (hw _ (List.mem_of_getElem? (i := 12) rfl)) (by decide) (by decide)) (g := (mkF m 6 #[.val (.ref a), .val (.ref s')] [.null, (.int (2 : Int32)), (.int (0 : Int32)), (.ref s'), (.ref a)])) rfl (by rw [hml]; rfl) (Steps.refl _) (a := a) (argsL := [(.ref s'), (.int (0 : Int32)), (.int (2 : Int32)), .null]) (rest := []) (lenOf pd___CIILjava_lang_Void__V rfl) rfl (by show 2 * 0 + _ ≤ _; exact Nat.le_of_eq rfl) (hb hby d3_6) (fun _ _ => ⟨rfl, e0, (by decide : 0 + 1 ≤ _), (by decide : 0 + 2 ≤ _)⟩)
  dsimp only [Pt.U, Pt.locs, Pt.cells, Pt.slots] at X2 l2 y2 z2 st2 hQ2
  subst l2 y2 z2
  obtain ⟨rfl, N2q, K2, S2⟩ := hQ2
  have N2 := Fr.app N0 N2q
  have sz2 := K2.1
  refine go_tr (B := (T2.setTop (mkF m 9 #[.val (.ref a), .val (.ref s')] []))) (st2) ?_
  refine go_end X2 (v := none) (fun _ => rfl) Bd.notSynchronized (by decide) (by decide) (Q := (Q_str_i1_2 Z a s' c0 c1 ks gC u u2 h0 n0)) ?_ (fun fs hr => X2.returnOut hx Bd.returns (hb hby d3_9) hr)
  show (fun (v : Option Value) (h : Heap) (L : List Loc) => v = none ∧ Fr n0 L ∧ Keep h0 h [a] ∧ Str Z h a 2 [c0, c1]) (none) T2.heap _
  exact ⟨rfl, N2, ((Keep.refl h0 [a]).trans K2 (allS (Or.inl (List.mem_of_getElem? (i := 0) rfl)) all0)), S2⟩
theorem d1_0 : decode method_3_code 0 = .ok (.iload_n 0, 1) := by decide +kernel
theorem d1_1 : decode method_3_code 1 = .ok (.invokestatic 7, 3) := by decide +kernel
theorem d1_4 : decode method_3_code 4 = .ok (.istore_n 1, 1) := by decide +kernel
theorem d1_5 : decode method_3_code 5 = .ok (.iload_n 0, 1) := by decide +kernel
theorem d1_6 : decode method_3_code 6 = .ok (.sipush 255, 3) := by decide +kernel
theorem d1_9 : decode method_3_code 9 = .ok (.iand, 1) := by decide +kernel
theorem d1_10 : decode method_3_code 10 = .ok (.i2c, 1) := by decide +kernel
theorem d1_11 : decode method_3_code 11 = .ok (.istore_n 2, 1) := by decide +kernel
theorem d1_12 : decode method_3_code 12 = .ok (.iload_n 0, 1) := by decide +kernel
theorem d1_13 : decode method_3_code 13 = .ok (.bipush 8, 2) := by decide +kernel
theorem d1_15 : decode method_3_code 15 = .ok (.iushr, 1) := by decide +kernel
theorem d1_16 : decode method_3_code 16 = .ok (.sipush 255, 3) := by decide +kernel
theorem d1_19 : decode method_3_code 19 = .ok (.iand, 1) := by decide +kernel
theorem d1_20 : decode method_3_code 20 = .ok (.i2c, 1) := by decide +kernel
theorem d1_21 : decode method_3_code 21 = .ok (.istore_n 3, 1) := by decide +kernel
theorem d1_22 : decode method_3_code 22 = .ok (.iload_n 1, 1) := by decide +kernel
theorem d1_23 : decode method_3_code 23 = .ok (.ifCond .ne 14, 3) := by decide +kernel
theorem d1_26 : decode method_3_code 26 = .ok (.new 13, 3) := by decide +kernel
theorem d1_29 : decode method_3_code 29 = .ok (.dup, 1) := by decide +kernel
theorem d1_30 : decode method_3_code 30 = .ok (.iconst 0, 1) := by decide +kernel
theorem d1_31 : decode method_3_code 31 = .ok (.newarray .char, 2) := by decide +kernel
theorem d1_33 : decode method_3_code 33 = .ok (.invokespecial 15, 3) := by decide +kernel
theorem pd___C_V : parseMethodDescriptor "([C)V" = some ⟨[(.array .char)], none⟩ := by decide +kernel
theorem d1_36 : decode method_3_code 36 = .ok (.areturn, 1) := by decide +kernel
def Q_rm1 (Z : State) (va : Int32) (gC : Int32) (h0 : Heap) (n0 : Nat) (v : Option Value) (h : Heap) (L : List Loc) : Prop := ∃ t : Addr, v = some (.ref t) ∧ Fr n0 L ∧ h0.size ≤ t ∧ Keep h0 h [] ∧ StrL Z h t (own_s va)
theorem d1_37 : decode method_3_code 37 = .ok (.iload_n 1, 1) := by decide +kernel
theorem d1_38 : decode method_3_code 38 = .ok (.iconst 1, 1) := by decide +kernel
theorem d1_39 : decode method_3_code 39 = .ok (.if_icmp .ne 23, 3) := by decide +kernel
theorem d1_42 : decode method_3_code 42 = .ok (.iconst 1, 1) := by decide +kernel
theorem d1_43 : decode method_3_code 43 = .ok (.newarray .char, 2) := by decide +kernel
theorem d1_45 : decode method_3_code 45 = .ok (.astore 4, 2) := by decide +kernel
theorem d1_47 : decode method_3_code 47 = .ok (.aload 4, 2) := by decide +kernel
theorem d1_49 : decode method_3_code 49 = .ok (.iconst 0, 1) := by decide +kernel
theorem d1_50 : decode method_3_code 50 = .ok (.iload_n 2, 1) := by decide +kernel
theorem d1_51 : decode method_3_code 51 = .ok (.castore, 1) := by decide +kernel
theorem d1_52 : decode method_3_code 52 = .ok (.new 13, 3) := by decide +kernel
theorem d1_55 : decode method_3_code 55 = .ok (.dup, 1) := by decide +kernel
theorem d1_56 : decode method_3_code 56 = .ok (.aload 4, 2) := by decide +kernel
theorem d1_58 : decode method_3_code 58 = .ok (.invokespecial 15, 3) := by decide +kernel
theorem d1_61 : decode method_3_code 61 = .ok (.areturn, 1) := by decide +kernel
theorem d1_62 : decode method_3_code 62 = .ok (.iconst 2, 1) := by decide +kernel
theorem d1_63 : decode method_3_code 63 = .ok (.newarray .char, 2) := by decide +kernel
theorem d1_65 : decode method_3_code 65 = .ok (.astore 4, 2) := by decide +kernel
theorem d1_67 : decode method_3_code 67 = .ok (.aload 4, 2) := by decide +kernel
theorem d1_69 : decode method_3_code 69 = .ok (.iconst 0, 1) := by decide +kernel
theorem d1_70 : decode method_3_code 70 = .ok (.iload_n 2, 1) := by decide +kernel
theorem d1_71 : decode method_3_code 71 = .ok (.castore, 1) := by decide +kernel
theorem d1_72 : decode method_3_code 72 = .ok (.aload 4, 2) := by decide +kernel
theorem d1_74 : decode method_3_code 74 = .ok (.iconst 1, 1) := by decide +kernel
theorem d1_75 : decode method_3_code 75 = .ok (.iload_n 3, 1) := by decide +kernel
theorem d1_76 : decode method_3_code 76 = .ok (.castore, 1) := by decide +kernel
theorem d1_77 : decode method_3_code 77 = .ok (.new 13, 3) := by decide +kernel
theorem d1_80 : decode method_3_code 80 = .ok (.dup, 1) := by decide +kernel
theorem d1_81 : decode method_3_code 81 = .ok (.aload 4, 2) := by decide +kernel
theorem d1_83 : decode method_3_code 83 = .ok (.invokespecial 15, 3) := by decide +kernel
theorem d1_86 : decode method_3_code 86 = .ok (.areturn, 1) := by decide +kernel
theorem ef_rm1 (m : MethodId) (va : Int32)  : entryFrame m #[(.int va)] 5 = mkF m 0 #[.val (.int va), .unset, .unset, .unset, .unset] [] := by first | (simp [entryFrame, mkF, argsToLocals, Value.category]; done) | rfl
set_option maxRecDepth 65536 in
set_option maxHeartbeats 40000000 in
theorem rm1 (l : Launch) (Z : State) (a0 : Array Value) (hw : ∀ d ∈ tables_1, d.before a0 Z = true) (ws : List Jvm.Cond) (va : Int32) (gC : Int32) (h0 : Heap) (n0 : Nat) (Z0 : n0 ≤ h0.size) (O : Old Z n0 h0) (SC : Sta Z Z.heap "java/lang/String" "COMPACT_STRINGS" "Z" (.int gC)) (hgC : ¬ gC = (0 : Int32)) :
    MetFree l (⟨"com/example/sure_paths/surepaths/model/ClassToExistentialEqualsPinLaw", "str", "(I)Ljava/lang/String;"⟩ : MethodName) (head1 (Jvm.Cond.code (⟨"com/example/sure_paths/surepaths/model/ClassToExistentialEqualsPinLaw", "str", "(I)Ljava/lang/String;"⟩ : MethodName) method_3_code 5 (some (.object "java/lang/String")) :: ws) ({ frames := 4, cells := 6, slots := 12, locals := 66 } : Room)) (fun aa' U1' => aa' = #[(.int va)] ∧ Z.Warmed39 U1'.vm ∧ U1'.heap = h0 ∧ CHv Z own_EL U1'.vm h0) (fun _ _ _ _ _ => True) (fun _ U1' oo' U2' => ∃ vv' LL', oo' = .returned vv' ∧ (Q_rm1 Z va gC h0 n0) vv' U2'.heap LL' ∧ CHr Z own_EL U1'.vm U1'.heap U2'.vm U2'.heap ∧ ReturnedEndW U1' oo' U2' LL' ({ frames := 4, cells := 6, slots := 12, locals := 66 } : Room).cells ({ frames := 4, cells := 6, slots := 12, locals := 66 } : Room).slots) := by
  refine MetFree.of_bodySF (plainFor_of_name pn_com_example_sure_paths_surepaths_model_ClassToExistentialEqualsPinLaw) hisR ?_
  intro p e s m args below meth c s₁ Bd hml0 hP hK
  obtain ⟨rfl, hZ, hh, hCH⟩ := hP
  have hx := Bd.exec
  have hby := Bd.bytes
  have hml : c.maxLocals = 5 := hml0
  have hown : s.vm.findClass "com/example/sure_paths/surepaths/model/ClassToExistentialEqualsPinLaw" = some m.cls := findClass_of_methodNamed Bd.named
  have hnm := (name_of_methodNamed Bd.named Bd.method).1
  have X0 : Stand p l e ({ frames := 4, cells := 6, slots := 12, locals := 66 } : Room) (s.setVm s.vm) m #[(.int va)] below meth c s₁ [] 0 0 := Stand.of_body Bd
  have e0 : s₁.heap = h0 := by rw [← hh, Bd.state]; rfl
  have N0 := Fr.nil n0
  have hS : s.Since s.vm 0 := (State.WarmedH.refl s).since 0
  have hh0 := hh
  have hEL := own_EW hw
  have HC0 := CHr.refl hCH
  refine go_of (A := s₁.setTop (entryFrame m #[(.int va)] 5)) (B := s₁.setTop (mkF m 0 #[.val (.int va), .unset, .unset, .unset, .unset] [])) (fun _ kk' => castTop (ef_rm1 m va) kk') ?_
  refine go_of (B := (s₁.setTop (mkF m 1 #[.val (.int va), .unset, .unset, .unset, .unset] [(.int va)]))) (fun _ kk => XS.iloadN X0.here hx rfl (hb hby d1_0) rfl kk) ?_
  obtain ⟨_, _, ⟨T1, L1, k1, n1⟩, -, X1, ⟨Lc1, hQ1, l1, y1, z1⟩, st1⟩ := Jvm.LawKit.callS X0 hx (y := (⟨"com/example/sure_paths/surepaths/model/ClassToExistentialEqualsPinLaw", "len", "(I)I"⟩ : MethodName)) hown (mvT hZ (hw _ (List.mem_of_getElem? (i := 7) rfl))) (mvT hZ (hw _ (List.mem_of_getElem? (i := 8) rfl))) (mvT hZ (hw _ (List.mem_of_getElem? (i := 5) rfl))) (mvT hZ (hw _ (List.mem_of_getElem? (i := 9) rfl))) (by decide) (backOf (W := 0) (rm2 l Z a0 hw [] va h0 n0 (by first | omega | exact own_ne (by omega) | exact own_le (by omega) | exact own_lt (by omega))) hZ (hw _ (List.mem_of_getElem? (i := 9) rfl)) (hw _ (List.mem_of_getElem? (i := 5) rfl)) (by decide) (by decide)) (g := (mkF m 1 #[.val (.int va), .unset, .unset, .unset, .unset] [(.int va)])) rfl (by rw [hml]; rfl) (argsL := [(.int va)]) (rest := []) (lenOf pd__I_I rfl) rfl (by show 2 * 0 + _ ≤ _; exact Nat.le_of_eq rfl) (hb hby d1_1) (fun _ _ => ⟨rfl, e0, (by decide : 0 + 0 ≤ _), (by decide : 0 + 0 ≤ _)⟩)
  dsimp only [Pt.U, Pt.locs, Pt.cells, Pt.slots] at X1 l1 y1 z1 st1 hQ1
  subst l1 y1 z1
  obtain ⟨rfl, N1q, e1⟩ := hQ1
  have N1 := Fr.app N0 N1q
  refine go_of (B := (T1.setTop (mkF m 4 #[.val (.int va), .unset, .unset, .unset, .unset] [(.int (own_ln va))]))) (st1) ?_
  refine go_of (B := (T1.setTop (mkF m 5 #[.val (.int va), .val (.int (own_ln va)), .unset, .unset, .unset] []))) (fun _ kk => XS.istoreN X1.here hx rfl (hb hby d1_4) rfl rfl kk) ?_
  refine go_of (B := (T1.setTop (mkF m 6 #[.val (.int va), .val (.int (own_ln va)), .unset, .unset, .unset] [(.int va)]))) (fun _ kk => XS.iloadN X1.here hx rfl (hb hby d1_5) rfl kk) ?_
  refine go_of (B := (T1.setTop (mkF m 9 #[.val (.int va), .val (.int (own_ln va)), .unset, .unset, .unset] [(.int (255 : Int32)), (.int va)]))) (fun _ kk => XS.sipush X1.here hx rfl (hb hby d1_6) kk) ?_
  refine go_of (B := (T1.setTop (mkF m 10 #[.val (.int va), .val (.int (own_ln va)), .unset, .unset, .unset] [(.int (va &&& (255 : Int32)))]))) (fun _ kk => XS.iand X1.here hx rfl (hb hby d1_9) rfl kk) ?_
  refine go_of (B := (T1.setTop (mkF m 11 #[.val (.int va), .val (.int (own_ln va)), .unset, .unset, .unset] [(.int ((va &&& (255 : Int32)).toUInt32.toUInt16.toUInt32.toInt32))]))) (fun _ kk => XS.i2c X1.here hx rfl (hb hby d1_10) rfl kk) ?_
  refine go_of (B := (T1.setTop (mkF m 12 #[.val (.int va), .val (.int (own_ln va)), .val (.int (own_ch va)), .unset, .unset] []))) (fun _ kk => XS.istoreN X1.here hx rfl (hb hby d1_11) rfl rfl kk) ?_
  refine go_of (B := (T1.setTop (mkF m 13 #[.val (.int va), .val (.int (own_ln va)), .val (.int (own_ch va)), .unset, .unset] [(.int va)]))) (fun _ kk => XS.iloadN X1.here hx rfl (hb hby d1_12) rfl kk) ?_
  refine go_of (B := (T1.setTop (mkF m 15 #[.val (.int va), .val (.int (own_ln va)), .val (.int (own_ch va)), .unset, .unset] [(.int (8 : Int32)), (.int va)]))) (fun _ kk => XS.bipush X1.here hx rfl (hb hby d1_13) kk) ?_
  refine go_of (B := (T1.setTop (mkF m 16 #[.val (.int va), .val (.int (own_ln va)), .val (.int (own_ch va)), .unset, .unset] [(.int ((va.toUInt32 >>> ((8 : Int32) &&& 31).toUInt32).toInt32))]))) (fun _ kk => XS.iushr X1.here hx rfl (hb hby d1_15) rfl kk) ?_
  refine go_of (B := (T1.setTop (mkF m 19 #[.val (.int va), .val (.int (own_ln va)), .val (.int (own_ch va)), .unset, .unset] [(.int (255 : Int32)), (.int ((va.toUInt32 >>> ((8 : Int32) &&& 31).toUInt32).toInt32))]))) (fun _ kk => XS.sipush X1.here hx rfl (hb hby d1_16) kk) ?_
  refine go_of (B := (T1.setTop (mkF m 20 #[.val (.int va), .val (.int (own_ln va)), .val (.int (own_ch va)), .unset, .unset] [(.int (((va.toUInt32 >>> ((8 : Int32) &&& 31).toUInt32).toInt32) &&& (255 : Int32)))]))) (fun _ kk => XS.iand X1.here hx rfl (hb hby d1_19) rfl kk) ?_
  refine go_of (B := (T1.setTop (mkF m 21 #[.val (.int va), .val (.int (own_ln va)), .val (.int (own_ch va)), .unset, .unset] [(.int ((((va.toUInt32 >>> ((8 : Int32) &&& 31).toUInt32).toInt32) &&& (255 : Int32)).toUInt32.toUInt16.toUInt32.toInt32))]))) (fun _ kk => XS.i2c X1.here hx rfl (hb hby d1_20) rfl kk) ?_
  refine go_of (B := (T1.setTop (mkF m 22 #[.val (.int va), .val (.int (own_ln va)), .val (.int (own_ch va)), .val (.int (own_ch8 va)), .unset] []))) (fun _ kk => XS.istoreN X1.here hx rfl (hb hby d1_21) rfl rfl kk) ?_
  refine go_of (B := (T1.setTop (mkF m 23 #[.val (.int va), .val (.int (own_ln va)), .val (.int (own_ch va)), .val (.int (own_ch8 va)), .unset] [(.int (own_ln va))]))) (fun _ kk => XS.iloadN X1.here hx rfl (hb hby d1_22) rfl kk) ?_
  by_cases hc2 : (own_ln va) = (0 : Int32)
  · refine go_of (B := (T1.setTop (mkF m 26 #[.val (.int va), .val (.int (own_ln va)), .val (.int (own_ch va)), .val (.int (own_ch8 va)), .unset] []))) (fun _ kk => XS.ifNo X1.here hx rfl (hb hby d1_23) rfl ((if0 _ _).trans (teq hc2).2) kk) ?_
    obtain ⟨T3, h3, X3, e3, E3, A3, D3, -, st3⟩ := newO X1 hx hZ hown (hw _ (List.mem_of_getElem? (i := 10) rfl)) (hw _ (List.mem_of_getElem? (i := 11) rfl)) (hw _ (List.mem_of_getElem? (i := 12) rfl)) e1 (g := (mkF m 26 #[.val (.int va), .val (.int (own_ln va)), .val (.int (own_ch va)), .val (.int (own_ch8 va)), .unset] [])) rfl (hb hby d1_26) (by decide) (by decide)
    obtain ⟨b3, g3⟩ : ∃ z, z = h0.size := ⟨_, rfl⟩
    rw [← g3] at A3 D3 st3
    have hi3 := own_nlt A3.lt
    have sz3 := E3.1
    have HC3 := HC0.trans (CHr.ext E3 HC0.1)
    have F3_value : Fld Z h3 b3 "java/lang/String" "value" "[B" .null := D3 (Or.inr (hw _ (List.mem_of_getElem? (i := 26) rfl))) (ty := (.array .byte)) (by decide)
    have F3_coder : Fld Z h3 b3 "java/lang/String" "coder" "B" (.int (0 : Int32)) := D3 (Or.inr (hw _ (List.mem_of_getElem? (i := 27) rfl))) (ty := .byte) (by decide)
    refine go_of (B := (T3.setTop (mkF m 29 #[.val (.int va), .val (.int (own_ln va)), .val (.int (own_ch va)), .val (.int (own_ch8 va)), .unset] [(.ref b3)]))) (st3) ?_
    refine go_of (B := (T3.setTop (mkF m 30 #[.val (.int va), .val (.int (own_ln va)), .val (.int (own_ch va)), .val (.int (own_ch8 va)), .unset] [(.ref b3), (.ref b3)]))) (fun _ kk => XS.dup X3.here hx rfl (hb hby d1_29) rfl rfl kk) ?_
    refine go_of (B := (T3.setTop (mkF m 31 #[.val (.int va), .val (.int (own_ln va)), .val (.int (own_ch va)), .val (.int (own_ch8 va)), .unset] [(.int (0 : Int32)), (.ref b3), (.ref b3)]))) (fun _ kk => XS.iconst X3.here hx rfl (hb hby d1_30) kk) ?_
    obtain ⟨T4, h4, k4, X4, e4, E4, A4, st4⟩ := newP X3 hx hZ (hw _ (List.mem_of_getElem? (i := 13) rfl)) e3 (g := (mkF m 31 #[.val (.int va), .val (.int (own_ln va)), .val (.int (own_ch va)), .val (.int (own_ch8 va)), .unset] [(.int (0 : Int32)), (.ref b3), (.ref b3)])) rfl (hb hby d1_31) rfl (by decide) (cap := 0) (by decide) (by decide) (by decide) (by decide)
    obtain ⟨b4, g4⟩ : ∃ z, z = h3.size := ⟨_, rfl⟩
    rw [← g4] at A4 st4
    have hi4 := own_nlt A4.lt
    have sz4 := E4.1
    have HC4 := HC3.trans (CHr.ext E4 HC3.1)
    have V4 : Arv Z h4 b4 k4 .char (0 : Int32) [] (.int (0 : Int32)) := (Arv.new A4 (by decide)).pad (pad_rep [] (.int (0 : Int32)) 0)
    refine go_of (B := (T4.setTop (mkF m 33 #[.val (.int va), .val (.int (own_ln va)), .val (.int (own_ch va)), .val (.int (own_ch8 va)), .unset] [(.ref b4), (.ref b3), (.ref b3)]))) (st4) ?_
    have cf_5 := (A3.ext E4)
    have cf_6 := (F3_value.ext E4)
    have cf_7 := (F3_coder.ext E4)
    obtain ⟨_, _, ⟨T8, L8, k8, n8⟩, -, X8', hS8', gr8, ⟨Lc8, hQ8, l8, y8, z8, HR8⟩, st8⟩ := X4.specialBackS hx (y := (⟨"java/lang/String", "<init>", "([C)V"⟩ : MethodName)) rfl hown (mvT hZ (hw _ (List.mem_of_getElem? (i := 14) rfl))) (mvT hZ (hw _ (List.mem_of_getElem? (i := 15) rfl))) (mvT hZ (hw _ (List.mem_of_getElem? (i := 16) rfl))) (by decide) (backOfSH (W := 1) (str_i1_0 l Z a0 hw [] b3 b4 _ k4 h4 n0 (by first | omega | exact own_ne (by omega) | exact own_le (by omega) | exact own_lt (by omega)) cf_5 cf_6 cf_7 (by first | omega | exact own_ne (by omega) | exact own_le (by omega) | exact own_lt (by omega)) V4) hZ (hw _ (List.mem_of_getElem? (i := 16) rfl)) (hw _ (List.mem_of_getElem? (i := 12) rfl)) (by decide) (by decide) hEL HC4.1) (g := (mkF m 33 #[.val (.int va), .val (.int (own_ln va)), .val (.int (own_ch va)), .val (.int (own_ch8 va)), .unset] [(.ref b4), (.ref b3), (.ref b3)])) rfl (by rw [hml]; rfl) (Steps.refl _) (a := b3) (argsL := [(.ref b4)]) (rest := [(.ref b3)]) (lenOf pd___C_V rfl) rfl (by show 2 * 0 + _ ≤ _; exact Nat.le_of_eq rfl) (hb hby d1_33) (fun _ _ => ⟨rfl, e4, (by decide : 2 + 4 ≤ _), (by decide : 4 + 8 ≤ _)⟩)
    dsimp only [Pt.U, Pt.locs, Pt.cells, Pt.slots] at X8' hS8' gr8 l8 y8 z8 st8 hQ8 HR8
    subst l8 y8 z8
    have X8 : Stand _ _ _ _ (s.setVm T8.vm) _ _ _ _ _ T8 _ _ _ := X8'
    have hS : s.Since T8.vm T8.heap.size := foldS hS (by rw [e4]; omega) hS8' gr8
    have hZ : Z.Warmed39 (s.setVm T8.vm).vm := State.Warmed39.trans (t := s.setVm s.vm) hZ hS8'.1
    have hown : (s.setVm T8.vm).vm.findClass "com/example/sure_paths/surepaths/model/ClassToExistentialEqualsPinLaw" = some m.cls := by rw [show (s.setVm T8.vm).vm = T8.vm from rfl, hS8'.1.alike.findClass]; exact hown
    obtain ⟨rfl, N8q, K8, S8⟩ := hQ8
    have N8 := Fr.app N1 N8q
    have sz8 := K8.1
    have HC8 := HC4.trans HR8
    refine go_tr (B := (T8.setTop (mkF m 36 #[.val (.int va), .val (.int (own_ln va)), .val (.int (own_ch va)), .val (.int (own_ch8 va)), .unset] [(.ref b3)]))) (st8) ?_
    refine go_endH X8 hZ hEL HC8 hh0 rfl hS (by first | omega | exact own_ne (by omega) | exact own_le (by omega) | exact own_lt (by omega)) (v := some (.ref b3)) (fun h => by rw [Bd.returns] at h; cases h) Bd.notSynchronized (by decide) (by decide) (Q := (Q_rm1 Z va gC h0 n0)) ?_ (fun fs hr => own_retA X8 hx Bd.returns rfl rfl (hb hby d1_36) hr)
    show (fun (v : Option Value) (h : Heap) (L : List Loc) => ∃ t : Addr, v = some (.ref t) ∧ Fr n0 L ∧ h0.size ≤ t ∧ Keep h0 h [] ∧ StrL Z h t (own_s va)) (some (.ref b3)) T8.heap _
    refine ⟨b3, rfl, N8, by omega, ((((Keep.refl h0 []).ext E3).ext E4).trans K8 (allS (Or.inr (by first | omega | exact own_ne (by omega) | exact own_le (by omega) | exact own_lt (by omega))) all0)), ?_⟩
    simp only [own_s, own_10, hc2, ↓reduceIte]
    exact S8
  · refine go_of (B := (T1.setTop (mkF m 37 #[.val (.int va), .val (.int (own_ln va)), .val (.int (own_ch va)), .val (.int (own_ch8 va)), .unset] []))) (fun _ kk => XS.ifYes X1.here hx rfl (pc0 := 23) (pc' := 37) rfl (hb hby d1_23) rfl ((if0 _ _).trans (feq hc2).2) (by decide) (by decide) kk) ?_
    refine go_of (B := (T1.setTop (mkF m 38 #[.val (.int va), .val (.int (own_ln va)), .val (.int (own_ch va)), .val (.int (own_ch8 va)), .unset] [(.int (own_ln va))]))) (fun _ kk => XS.iloadN X1.here hx rfl (hb hby d1_37) rfl kk) ?_
    refine go_of (B := (T1.setTop (mkF m 39 #[.val (.int va), .val (.int (own_ln va)), .val (.int (own_ch va)), .val (.int (own_ch8 va)), .unset] [(.int (1 : Int32)), (.int (own_ln va))]))) (fun _ kk => XS.iconst X1.here hx rfl (hb hby d1_38) kk) ?_
    by_cases hc9 : (own_ln va) = (1 : Int32)
    · refine go_of (B := (T1.setTop (mkF m 42 #[.val (.int va), .val (.int (own_ln va)), .val (.int (own_ch va)), .val (.int (own_ch8 va)), .unset] []))) (fun _ kk => XS.icmpNo X1.here hx rfl (hb hby d1_39) rfl (teq hc9).2 kk) ?_
      refine go_of (B := (T1.setTop (mkF m 43 #[.val (.int va), .val (.int (own_ln va)), .val (.int (own_ch va)), .val (.int (own_ch8 va)), .unset] [(.int (1 : Int32))]))) (fun _ kk => XS.iconst X1.here hx rfl (hb hby d1_42) kk) ?_
      obtain ⟨T10, h10, k10, X10, e10, E10, A10, st10⟩ := newP X1 hx hZ (hw _ (List.mem_of_getElem? (i := 13) rfl)) e1 (g := (mkF m 43 #[.val (.int va), .val (.int (own_ln va)), .val (.int (own_ch va)), .val (.int (own_ch8 va)), .unset] [(.int (1 : Int32))])) rfl (hb hby d1_43) rfl (by decide) (cap := 1) (by decide) (by decide) (by decide) (by decide)
      obtain ⟨b10, g10⟩ : ∃ z, z = h0.size := ⟨_, rfl⟩
      rw [← g10] at A10 st10
      have hi10 := own_nlt A10.lt
      have sz10 := E10.1
      have HC10 := HC0.trans (CHr.ext E10 HC0.1)
      have V10 : Arv Z h10 b10 k10 .char (1 : Int32) [(.int (0 : Int32))] (.int (0 : Int32)) := (Arv.new A10 (by decide)).pad (pad_rep [] (.int (0 : Int32)) 1)
      refine go_of (B := (T10.setTop (mkF m 45 #[.val (.int va), .val (.int (own_ln va)), .val (.int (own_ch va)), .val (.int (own_ch8 va)), .unset] [(.ref b10)]))) (st10) ?_
      refine go_of (B := (T10.setTop (mkF m 47 #[.val (.int va), .val (.int (own_ln va)), .val (.int (own_ch va)), .val (.int (own_ch8 va)), .val (.ref b10)] []))) (fun _ kk => XS.astore X10.here hx rfl (hb hby d1_45) rfl rfl rfl kk) ?_
      refine go_of (B := (T10.setTop (mkF m 49 #[.val (.int va), .val (.int (own_ln va)), .val (.int (own_ch va)), .val (.int (own_ch8 va)), .val (.ref b10)] [(.ref b10)]))) (fun _ kk => XS.aload X10.here hx rfl (hb hby d1_47) rfl rfl kk) ?_
      refine go_of (B := (T10.setTop (mkF m 50 #[.val (.int va), .val (.int (own_ln va)), .val (.int (own_ch va)), .val (.int (own_ch8 va)), .val (.ref b10)] [(.int (0 : Int32)), (.ref b10)]))) (fun _ kk => XS.iconst X10.here hx rfl (hb hby d1_49) kk) ?_
      refine go_of (B := (T10.setTop (mkF m 51 #[.val (.int va), .val (.int (own_ln va)), .val (.int (own_ch va)), .val (.int (own_ch8 va)), .val (.ref b10)] [(.int (own_ch va)), (.int (0 : Int32)), (.ref b10)]))) (fun _ kk => XS.iloadN X10.here hx rfl (hb hby d1_50) rfl kk) ?_
      obtain ⟨cl11, Ar11, q11, Sz11, Nn11, Hh11, G11⟩ := id (V10)
      obtain ⟨T12, h12, X12, e12, W12, st12⟩ := stC X10 hx hZ e10 Ar11 (j := (0 : Int32)) (inb_of Sz11 ⟨by decide, by decide⟩) (g := (mkF m 51 #[.val (.int va), .val (.int (own_ln va)), .val (.int (own_ch va)), .val (.int (own_ch8 va)), .val (.ref b10)] [(.int (own_ch va)), (.int (0 : Int32)), (.ref b10)])) rfl rfl (hb hby d1_51)
      have sz12 := W12.size
      have N12 := Fr.snoc X12 N1 ((by first | omega | exact own_ne (by omega) | exact own_le (by omega) | exact own_lt (by omega)) : n0 ≤ b10)
      have V12 : Arv Z h12 b10 k10 .char (1 : Int32) [(.int (nar .char (own_ch va)))] (.int (0 : Int32)) := Arv.set Ar11 q11 Sz11 Nn11 Hh11 G11 (fits_nar_char _) W12 0 rfl (Nat.le_of_ble_eq_true rfl)
      rw [own_narc (own_chr va)] at V12
      have SF12 := (own_safe_arv hZ.alike V10 (by decide) : (Safe Z own_EL _ h10 b10))
      have HC12 := HC10.trans (CHr.wr W12 SF12 HC10.1)
      refine go_of (B := (T12.setTop (mkF m 52 #[.val (.int va), .val (.int (own_ln va)), .val (.int (own_ch va)), .val (.int (own_ch8 va)), .val (.ref b10)] []))) (st12) ?_
      obtain ⟨T13, h13, X13, e13, E13, A13, D13, -, st13⟩ := newO X12 hx hZ hown (hw _ (List.mem_of_getElem? (i := 10) rfl)) (hw _ (List.mem_of_getElem? (i := 11) rfl)) (hw _ (List.mem_of_getElem? (i := 12) rfl)) e12 (g := (mkF m 52 #[.val (.int va), .val (.int (own_ln va)), .val (.int (own_ch va)), .val (.int (own_ch8 va)), .val (.ref b10)] [])) rfl (hb hby d1_52) (by decide) (by decide)
      obtain ⟨b13, g13⟩ : ∃ z, z = h12.size := ⟨_, rfl⟩
      rw [← g13] at A13 D13 st13
      have hi13 := own_nlt A13.lt
      have sz13 := E13.1
      have HC13 := HC12.trans (CHr.ext E13 HC12.1)
      have F13_value : Fld Z h13 b13 "java/lang/String" "value" "[B" .null := D13 (Or.inr (hw _ (List.mem_of_getElem? (i := 26) rfl))) (ty := (.array .byte)) (by decide)
      have F13_coder : Fld Z h13 b13 "java/lang/String" "coder" "B" (.int (0 : Int32)) := D13 (Or.inr (hw _ (List.mem_of_getElem? (i := 27) rfl))) (ty := .byte) (by decide)
      refine go_of (B := (T13.setTop (mkF m 55 #[.val (.int va), .val (.int (own_ln va)), .val (.int (own_ch va)), .val (.int (own_ch8 va)), .val (.ref b10)] [(.ref b13)]))) (st13) ?_
      refine go_of (B := (T13.setTop (mkF m 56 #[.val (.int va), .val (.int (own_ln va)), .val (.int (own_ch va)), .val (.int (own_ch8 va)), .val (.ref b10)] [(.ref b13), (.ref b13)]))) (fun _ kk => XS.dup X13.here hx rfl (hb hby d1_55) rfl rfl kk) ?_
      refine go_of (B := (T13.setTop (mkF m 58 #[.val (.int va), .val (.int (own_ln va)), .val (.int (own_ch va)), .val (.int (own_ch8 va)), .val (.ref b10)] [(.ref b10), (.ref b13), (.ref b13)]))) (fun _ kk => XS.aload X13.here hx rfl (hb hby d1_56) rfl rfl kk) ?_
      have sf_14 := (own_safe_null hZ.alike A13 F13_value : (Safe Z own_EL _ h13 b13))
      have cf_15 := (((O.ext E10).wr W12 (by first | omega | exact own_ne (by omega) | exact own_le (by omega) | exact own_lt (by omega))).ext E13)
      have cf_16 := (V12.ext E13)
      obtain ⟨_, _, ⟨T17, L17, k17, n17⟩, -, X17, ⟨Lc17, hQ17, l17, y17, z17⟩, st17⟩ := X13.specialBack hx (y := (⟨"java/lang/String", "<init>", "([C)V"⟩ : MethodName)) rfl hown (mvT hZ (hw _ (List.mem_of_getElem? (i := 14) rfl))) (mvT hZ (hw _ (List.mem_of_getElem? (i := 15) rfl))) (mvT hZ (hw _ (List.mem_of_getElem? (i := 16) rfl))) (by decide) (backOf (W := 1) (str_i1_1 l Z a0 hw [] b13 b10 (own_ch va) k10 gC _ _ h13 n0 (by first | omega | exact own_ne (by omega) | exact own_le (by omega) | exact own_lt (by omega)) cf_15 SC hgC A13 F13_value F13_coder (by first | omega | exact own_ne (by omega) | exact own_le (by omega) | exact own_lt (by omega)) cf_16 (own_chr va)) hZ (hw _ (List.mem_of_getElem? (i := 16) rfl)) (hw _ (List.mem_of_getElem? (i := 12) rfl)) (by decide) (by decide)) (g := (mkF m 58 #[.val (.int va), .val (.int (own_ln va)), .val (.int (own_ch va)), .val (.int (own_ch8 va)), .val (.ref b10)] [(.ref b10), (.ref b13), (.ref b13)])) rfl (by rw [hml]; rfl) (Steps.refl _) (a := b13) (argsL := [(.ref b10)]) (rest := [(.ref b13)]) (lenOf pd___C_V rfl) rfl (by show 2 * 0 + _ ≤ _; exact Nat.le_of_eq rfl) (hb hby d1_58) (fun _ _ => ⟨rfl, e13, (by decide : 2 + 1 ≤ _), (by decide : 5 + 1 ≤ _)⟩)
      dsimp only [Pt.U, Pt.locs, Pt.cells, Pt.slots] at X17 l17 y17 z17 st17 hQ17
      subst l17 y17 z17
      obtain ⟨rfl, N17q, K17, S17⟩ := hQ17
      have N17 := Fr.app N12 N17q
      have sz17 := K17.1
      have SK17 : ∀ x ∈ [b13], Safe Z own_EL _ h13 x := (allS sf_14 all0)
      have HC17 := HC13.trans (CHr.keep K17 SK17 HC13.1)
      refine go_tr (B := (T17.setTop (mkF m 61 #[.val (.int va), .val (.int (own_ln va)), .val (.int (own_ch va)), .val (.int (own_ch8 va)), .val (.ref b10)] [(.ref b13)]))) (st17) ?_
      refine go_endH X17 hZ hEL HC17 hh0 rfl hS (by first | omega | exact own_ne (by omega) | exact own_le (by omega) | exact own_lt (by omega)) (v := some (.ref b13)) (fun h => by rw [Bd.returns] at h; cases h) Bd.notSynchronized (by decide) (by decide) (Q := (Q_rm1 Z va gC h0 n0)) ?_ (fun fs hr => own_retA X17 hx Bd.returns rfl rfl (hb hby d1_61) hr)
      show (fun (v : Option Value) (h : Heap) (L : List Loc) => ∃ t : Addr, v = some (.ref t) ∧ Fr n0 L ∧ h0.size ≤ t ∧ Keep h0 h [] ∧ StrL Z h t (own_s va)) (some (.ref b13)) T17.heap _
      refine ⟨b13, rfl, N17, by omega, (((((Keep.refl h0 []).ext E10).wr W12 (Or.inr (by first | omega | exact own_ne (by omega) | exact own_le (by omega) | exact own_lt (by omega)))).ext E13).trans K17 (allS (Or.inr (by first | omega | exact own_ne (by omega) | exact own_le (by omega) | exact own_lt (by omega))) all0)), ?_⟩
      simp only [own_s, own_10, hc2, hc9, ↓reduceIte]
      exact S17
    · refine go_of (B := (T1.setTop (mkF m 62 #[.val (.int va), .val (.int (own_ln va)), .val (.int (own_ch va)), .val (.int (own_ch8 va)), .unset] []))) (fun _ kk => XS.icmpYes X1.here hx rfl (pc0 := 39) (pc' := 62) rfl (hb hby d1_39) rfl (feq hc9).2 (by decide) (by decide) kk) ?_
      refine go_of (B := (T1.setTop (mkF m 63 #[.val (.int va), .val (.int (own_ln va)), .val (.int (own_ch va)), .val (.int (own_ch8 va)), .unset] [(.int (2 : Int32))]))) (fun _ kk => XS.iconst X1.here hx rfl (hb hby d1_62) kk) ?_
      obtain ⟨T18, h18, k18, X18, e18, E18, A18, st18⟩ := newP X1 hx hZ (hw _ (List.mem_of_getElem? (i := 13) rfl)) e1 (g := (mkF m 63 #[.val (.int va), .val (.int (own_ln va)), .val (.int (own_ch va)), .val (.int (own_ch8 va)), .unset] [(.int (2 : Int32))])) rfl (hb hby d1_63) rfl (by decide) (cap := 2) (by decide) (by decide) (by decide) (by decide)
      obtain ⟨b18, g18⟩ : ∃ z, z = h0.size := ⟨_, rfl⟩
      rw [← g18] at A18 st18
      have hi18 := own_nlt A18.lt
      have sz18 := E18.1
      have HC18 := HC0.trans (CHr.ext E18 HC0.1)
      have V18 : Arv Z h18 b18 k18 .char (2 : Int32) [(.int (0 : Int32)), (.int (0 : Int32))] (.int (0 : Int32)) := (Arv.new A18 (by decide)).pad (pad_rep [] (.int (0 : Int32)) 2)
      refine go_of (B := (T18.setTop (mkF m 65 #[.val (.int va), .val (.int (own_ln va)), .val (.int (own_ch va)), .val (.int (own_ch8 va)), .unset] [(.ref b18)]))) (st18) ?_
      refine go_of (B := (T18.setTop (mkF m 67 #[.val (.int va), .val (.int (own_ln va)), .val (.int (own_ch va)), .val (.int (own_ch8 va)), .val (.ref b18)] []))) (fun _ kk => XS.astore X18.here hx rfl (hb hby d1_65) rfl rfl rfl kk) ?_
      refine go_of (B := (T18.setTop (mkF m 69 #[.val (.int va), .val (.int (own_ln va)), .val (.int (own_ch va)), .val (.int (own_ch8 va)), .val (.ref b18)] [(.ref b18)]))) (fun _ kk => XS.aload X18.here hx rfl (hb hby d1_67) rfl rfl kk) ?_
      refine go_of (B := (T18.setTop (mkF m 70 #[.val (.int va), .val (.int (own_ln va)), .val (.int (own_ch va)), .val (.int (own_ch8 va)), .val (.ref b18)] [(.int (0 : Int32)), (.ref b18)]))) (fun _ kk => XS.iconst X18.here hx rfl (hb hby d1_69) kk) ?_
      refine go_of (B := (T18.setTop (mkF m 71 #[.val (.int va), .val (.int (own_ln va)), .val (.int (own_ch va)), .val (.int (own_ch8 va)), .val (.ref b18)] [(.int (own_ch va)), (.int (0 : Int32)), (.ref b18)]))) (fun _ kk => XS.iloadN X18.here hx rfl (hb hby d1_70) rfl kk) ?_
      obtain ⟨cl19, Ar19, q19, Sz19, Nn19, Hh19, G19⟩ := id (V18)
      obtain ⟨T20, h20, X20, e20, W20, st20⟩ := stC X18 hx hZ e18 Ar19 (j := (0 : Int32)) (inb_of Sz19 ⟨by decide, by decide⟩) (g := (mkF m 71 #[.val (.int va), .val (.int (own_ln va)), .val (.int (own_ch va)), .val (.int (own_ch8 va)), .val (.ref b18)] [(.int (own_ch va)), (.int (0 : Int32)), (.ref b18)])) rfl rfl (hb hby d1_71)
      have sz20 := W20.size
      have N20 := Fr.snoc X20 N1 ((by first | omega | exact own_ne (by omega) | exact own_le (by omega) | exact own_lt (by omega)) : n0 ≤ b18)
      have V20 : Arv Z h20 b18 k18 .char (2 : Int32) [(.int (nar .char (own_ch va))), (.int (0 : Int32))] (.int (0 : Int32)) := Arv.set Ar19 q19 Sz19 Nn19 Hh19 G19 (fits_nar_char _) W20 0 rfl (Nat.le_of_ble_eq_true rfl)
      rw [own_narc (own_chr va)] at V20
      have SF20 := (own_safe_arv hZ.alike V18 (by decide) : (Safe Z own_EL _ h18 b18))
      have HC20 := HC18.trans (CHr.wr W20 SF20 HC18.1)
      refine go_of (B := (T20.setTop (mkF m 72 #[.val (.int va), .val (.int (own_ln va)), .val (.int (own_ch va)), .val (.int (own_ch8 va)), .val (.ref b18)] []))) (st20) ?_
      refine go_of (B := (T20.setTop (mkF m 74 #[.val (.int va), .val (.int (own_ln va)), .val (.int (own_ch va)), .val (.int (own_ch8 va)), .val (.ref b18)] [(.ref b18)]))) (fun _ kk => XS.aload X20.here hx rfl (hb hby d1_72) rfl rfl kk) ?_
      refine go_of (B := (T20.setTop (mkF m 75 #[.val (.int va), .val (.int (own_ln va)), .val (.int (own_ch va)), .val (.int (own_ch8 va)), .val (.ref b18)] [(.int (1 : Int32)), (.ref b18)]))) (fun _ kk => XS.iconst X20.here hx rfl (hb hby d1_74) kk) ?_
      refine go_of (B := (T20.setTop (mkF m 76 #[.val (.int va), .val (.int (own_ln va)), .val (.int (own_ch va)), .val (.int (own_ch8 va)), .val (.ref b18)] [(.int (own_ch8 va)), (.int (1 : Int32)), (.ref b18)]))) (fun _ kk => XS.iloadN X20.here hx rfl (hb hby d1_75) rfl kk) ?_
      obtain ⟨cl21, Ar21, q21, Sz21, Nn21, Hh21, G21⟩ := id (V20)
      obtain ⟨T22, h22, X22, e22, W22, st22⟩ := stC X20 hx hZ e20 Ar21 (j := (1 : Int32)) (inb_of Sz21 ⟨by decide, by decide⟩) (g := (mkF m 76 #[.val (.int va), .val (.int (own_ln va)), .val (.int (own_ch va)), .val (.int (own_ch8 va)), .val (.ref b18)] [(.int (own_ch8 va)), (.int (1 : Int32)), (.ref b18)])) rfl rfl (hb hby d1_76)
      have sz22 := W22.size
      have N22 := Fr.snoc X22 N20 ((by first | omega | exact own_ne (by omega) | exact own_le (by omega) | exact own_lt (by omega)) : n0 ≤ b18)
      have V22 : Arv Z h22 b18 k18 .char (2 : Int32) [(.int (own_ch va)), (.int (nar .char (own_ch8 va)))] (.int (0 : Int32)) := Arv.set Ar21 q21 Sz21 Nn21 Hh21 G21 (fits_nar_char _) W22 1 rfl (Nat.le_of_ble_eq_true rfl)
      rw [own_narc (own_chr _)] at V22
      have SF22 := (own_safe_arv hZ.alike V20 (by decide) : (Safe Z own_EL _ h20 b18))
      have HC22 := HC20.trans (CHr.wr W22 SF22 HC20.1)
      refine go_of (B := (T22.setTop (mkF m 77 #[.val (.int va), .val (.int (own_ln va)), .val (.int (own_ch va)), .val (.int (own_ch8 va)), .val (.ref b18)] []))) (st22) ?_
      obtain ⟨T23, h23, X23, e23, E23, A23, D23, -, st23⟩ := newO X22 hx hZ hown (hw _ (List.mem_of_getElem? (i := 10) rfl)) (hw _ (List.mem_of_getElem? (i := 11) rfl)) (hw _ (List.mem_of_getElem? (i := 12) rfl)) e22 (g := (mkF m 77 #[.val (.int va), .val (.int (own_ln va)), .val (.int (own_ch va)), .val (.int (own_ch8 va)), .val (.ref b18)] [])) rfl (hb hby d1_77) (by decide) (by decide)
      obtain ⟨b23, g23⟩ : ∃ z, z = h22.size := ⟨_, rfl⟩
      rw [← g23] at A23 D23 st23
      have hi23 := own_nlt A23.lt
      have sz23 := E23.1
      have HC23 := HC22.trans (CHr.ext E23 HC22.1)
      have F23_value : Fld Z h23 b23 "java/lang/String" "value" "[B" .null := D23 (Or.inr (hw _ (List.mem_of_getElem? (i := 26) rfl))) (ty := (.array .byte)) (by decide)
      have F23_coder : Fld Z h23 b23 "java/lang/String" "coder" "B" (.int (0 : Int32)) := D23 (Or.inr (hw _ (List.mem_of_getElem? (i := 27) rfl))) (ty := .byte) (by decide)
      refine go_of (B := (T23.setTop (mkF m 80 #[.val (.int va), .val (.int (own_ln va)), .val (.int (own_ch va)), .val (.int (own_ch8 va)), .val (.ref b18)] [(.ref b23)]))) (st23) ?_
      refine go_of (B := (T23.setTop (mkF m 81 #[.val (.int va), .val (.int (own_ln va)), .val (.int (own_ch va)), .val (.int (own_ch8 va)), .val (.ref b18)] [(.ref b23), (.ref b23)]))) (fun _ kk => XS.dup X23.here hx rfl (hb hby d1_80) rfl rfl kk) ?_
      refine go_of (B := (T23.setTop (mkF m 83 #[.val (.int va), .val (.int (own_ln va)), .val (.int (own_ch va)), .val (.int (own_ch8 va)), .val (.ref b18)] [(.ref b18), (.ref b23), (.ref b23)]))) (fun _ kk => XS.aload X23.here hx rfl (hb hby d1_81) rfl rfl kk) ?_
      have sf_24 := (own_safe_null hZ.alike A23 F23_value : (Safe Z own_EL _ h23 b23))
      have cf_25 := ((((O.ext E18).wr W20 (by first | omega | exact own_ne (by omega) | exact own_le (by omega) | exact own_lt (by omega))).wr W22 (by first | omega | exact own_ne (by omega) | exact own_le (by omega) | exact own_lt (by omega))).ext E23)
      have cf_26 := (V22.ext E23)
      obtain ⟨_, _, ⟨T27, L27, k27, n27⟩, -, X27, ⟨Lc27, hQ27, l27, y27, z27⟩, st27⟩ := X23.specialBack hx (y := (⟨"java/lang/String", "<init>", "([C)V"⟩ : MethodName)) rfl hown (mvT hZ (hw _ (List.mem_of_getElem? (i := 14) rfl))) (mvT hZ (hw _ (List.mem_of_getElem? (i := 15) rfl))) (mvT hZ (hw _ (List.mem_of_getElem? (i := 16) rfl))) (by decide) (backOf (W := 1) (str_i1_2 l Z a0 hw [] b23 b18 (own_ch va) (own_ch8 va) k18 gC _ _ h23 n0 (by first | omega | exact own_ne (by omega) | exact own_le (by omega) | exact own_lt (by omega)) cf_25 SC hgC A23 F23_value F23_coder (by first | omega | exact own_ne (by omega) | exact own_le (by omega) | exact own_lt (by omega)) cf_26 (own_chr va) (own_chr _)) hZ (hw _ (List.mem_of_getElem? (i := 16) rfl)) (hw _ (List.mem_of_getElem? (i := 12) rfl)) (by decide) (by decide)) (g := (mkF m 83 #[.val (.int va), .val (.int (own_ln va)), .val (.int (own_ch va)), .val (.int (own_ch8 va)), .val (.ref b18)] [(.ref b18), (.ref b23), (.ref b23)])) rfl (by rw [hml]; rfl) (Steps.refl _) (a := b23) (argsL := [(.ref b18)]) (rest := [(.ref b23)]) (lenOf pd___C_V rfl) rfl (by show 2 * 0 + _ ≤ _; exact Nat.le_of_eq rfl) (hb hby d1_83) (fun _ _ => ⟨rfl, e23, (by decide : 2 + 1 ≤ _), (by decide : 6 + 2 ≤ _)⟩)
      dsimp only [Pt.U, Pt.locs, Pt.cells, Pt.slots] at X27 l27 y27 z27 st27 hQ27
      subst l27 y27 z27
      obtain ⟨rfl, N27q, K27, S27⟩ := hQ27
      have N27 := Fr.app N22 N27q
      have sz27 := K27.1
      have SK27 : ∀ x ∈ [b23], Safe Z own_EL _ h23 x := (allS sf_24 all0)
      have HC27 := HC23.trans (CHr.keep K27 SK27 HC23.1)
      refine go_tr (B := (T27.setTop (mkF m 86 #[.val (.int va), .val (.int (own_ln va)), .val (.int (own_ch va)), .val (.int (own_ch8 va)), .val (.ref b18)] [(.ref b23)]))) (st27) ?_
      refine go_endH X27 hZ hEL HC27 hh0 rfl hS (by first | omega | exact own_ne (by omega) | exact own_le (by omega) | exact own_lt (by omega)) (v := some (.ref b23)) (fun h => by rw [Bd.returns] at h; cases h) Bd.notSynchronized (by decide) (by decide) (Q := (Q_rm1 Z va gC h0 n0)) ?_ (fun fs hr => own_retA X27 hx Bd.returns rfl rfl (hb hby d1_86) hr)
      show (fun (v : Option Value) (h : Heap) (L : List Loc) => ∃ t : Addr, v = some (.ref t) ∧ Fr n0 L ∧ h0.size ≤ t ∧ Keep h0 h [] ∧ StrL Z h t (own_s va)) (some (.ref b23)) T27.heap _
      refine ⟨b23, rfl, N27, by omega, ((((((Keep.refl h0 []).ext E18).wr W20 (Or.inr (by first | omega | exact own_ne (by omega) | exact own_le (by omega) | exact own_lt (by omega)))).wr W22 (Or.inr (by first | omega | exact own_ne (by omega) | exact own_le (by omega) | exact own_lt (by omega)))).ext E23).trans K27 (allS (Or.inr (by first | omega | exact own_ne (by omega) | exact own_le (by omega) | exact own_lt (by omega))) all0)), ?_⟩
      simp only [own_s, own_10, hc2, hc9, ↓reduceIte]
      exact S27
theorem d7_0 : decode jdk_31_method_11_code 0 = .ok (.aload_n 0, 1) := by decide +kernel
theorem d7_1 : decode jdk_31_method_11_code 1 = .ok (.ifnonnull 12, 3) := by decide +kernel
theorem d7_13 : decode jdk_31_method_11_code 13 = .ok (.aload_n 0, 1) := by decide +kernel
theorem d7_14 : decode jdk_31_method_11_code 14 = .ok (.areturn, 1) := by decide +kernel
def Q_rm7 (Z : State) (a : Addr) (bb : Addr) (h0 : Heap) (n0 : Nat) (v : Option Value) (h : Heap) (L : List Loc) : Prop := v = some (.ref a) ∧ Fr n0 L ∧ h = h0
theorem pn_java_util_Objects : plainName "java/util/Objects" = true := by first | (simp [plainName, overriddenIn]; done) | decide +kernel
theorem ef_rm7 (m : MethodId) (a : Addr) (bb : Addr)  : entryFrame m #[(.ref a), (.ref bb)] 2 = mkF m 0 #[.val (.ref a), .val (.ref bb)] [] := by first | (simp [entryFrame, mkF, argsToLocals, Value.category]; done) | rfl
set_option maxRecDepth 65536 in
set_option maxHeartbeats 40000000 in
theorem rm7 (l : Launch) (Z : State) (a0 : Array Value) (hw : ∀ d ∈ tables_1, d.before a0 Z = true) (ws : List Jvm.Cond) (a : Addr) (bb : Addr) (h0 : Heap) (n0 : Nat) (Z0 : n0 ≤ h0.size)  :
    MetFree l (⟨"java/util/Objects", "requireNonNull", "(Ljava/lang/Object;Ljava/lang/String;)Ljava/lang/Object;"⟩ : MethodName) (head1 (Jvm.Cond.code (⟨"java/util/Objects", "requireNonNull", "(Ljava/lang/Object;Ljava/lang/String;)Ljava/lang/Object;"⟩ : MethodName) jdk_31_method_11_code 2 (some (.object "java/lang/Object")) :: ws) ({ frames := 0, cells := 0, slots := 0, locals := 0 } : Room)) (fun aa' U1' => aa' = #[(.ref a), (.ref bb)] ∧ Z.Warmed39 U1'.vm ∧ U1'.heap = h0) (fun _ _ _ _ _ => True) (fun _ U1' oo' U2' => ∃ vv' LL', oo' = .returned vv' ∧ (Q_rm7 Z a bb h0 n0) vv' U2'.heap LL' ∧ FrameEnd U1' oo' U2' LL' ({ frames := 0, cells := 0, slots := 0, locals := 0 } : Room).cells ({ frames := 0, cells := 0, slots := 0, locals := 0 } : Room).slots) := by
  refine MetFree.of_bodySF (plainFor_of_name pn_java_util_Objects) hisR ?_
  intro p e s m args below meth c s₁ Bd hml0 hP hK
  obtain ⟨rfl, hZ, hh⟩ := hP
  have hx := Bd.exec
  have hby := Bd.bytes
  have hml : c.maxLocals = 2 := hml0
  have hown : s.vm.findClass "java/util/Objects" = some m.cls := findClass_of_methodNamed Bd.named
  have hnm := (name_of_methodNamed Bd.named Bd.method).1
  have X0 : Stand p l e ({ frames := 0, cells := 0, slots := 0, locals := 0 } : Room) s m #[(.ref a), (.ref bb)] below meth c s₁ [] 0 0 := Stand.of_body Bd
  have e0 : s₁.heap = h0 := by rw [← hh, Bd.state]; rfl
  have N0 := Fr.nil n0
  refine go_of (A := s₁.setTop (entryFrame m #[(.ref a), (.ref bb)] 2)) (B := s₁.setTop (mkF m 0 #[.val (.ref a), .val (.ref bb)] [])) (fun _ kk' => castTop (ef_rm7 m a bb) kk') ?_
  refine go_of (B := (s₁.setTop (mkF m 1 #[.val (.ref a), .val (.ref bb)] [(.ref a)]))) (fun _ kk => XS.aloadN X0.here hx rfl (hb hby d7_0) rfl rfl kk) ?_
  refine go_of (B := (s₁.setTop (mkF m 13 #[.val (.ref a), .val (.ref bb)] []))) (fun _ kk => XS.ifnonnullYes X0.here hx rfl (pc0 := 1) (pc' := 13) rfl (hb hby d7_1) rfl (by decide) (by decide) kk) ?_
  refine go_of (B := (s₁.setTop (mkF m 14 #[.val (.ref a), .val (.ref bb)] [(.ref a)]))) (fun _ kk => XS.aloadN X0.here hx rfl (hb hby d7_13) rfl rfl kk) ?_
  refine go_end X0 (v := some (.ref a)) (fun h => by rw [Bd.returns] at h; cases h) Bd.notSynchronized (by decide) (by decide) (Q := (Q_rm7 Z a bb h0 n0)) ?_ (fun fs hr => own_retA X0 hx Bd.returns rfl rfl (hb hby d7_14) hr)
  show (fun (v : Option Value) (h : Heap) (L : List Loc) => v = some (.ref a) ∧ Fr n0 L ∧ h = h0) (some (.ref a)) s₁.heap _
  rw [e0]
  exact ⟨rfl, N0, rfl⟩
def OT (Z : State) (h : Heap) (a p1 p2 p3 : Addr) : Prop := Exa Z h a "com/example/sure_paths/surepaths/model/ClassToExistential" ∧ Fld Z h a "com/example/sure_paths/surepaths/model/ClassToExistential" "subClass" "Ljava/lang/String;" (.ref p1) ∧ Fld Z h a "com/example/sure_paths/surepaths/model/ClassToExistential" "property" "Ljava/lang/String;" (.ref p2) ∧ Fld Z h a "com/example/sure_paths/surepaths/model/ClassToExistential" "filler" "Ljava/lang/String;" (.ref p3)
def OC (Z : State) (h : Heap) (a p1 p2 : Addr) : Prop := Exa Z h a "com/example/sure_paths/surepaths/model/ClassInclusion" ∧ Fld Z h a "com/example/sure_paths/surepaths/model/ClassInclusion" "subClass" "Ljava/lang/String;" (.ref p1) ∧ Fld Z h a "com/example/sure_paths/surepaths/model/ClassInclusion" "superClass" "Ljava/lang/String;" (.ref p2)
theorem d6_0 : decode prog_32_method_1_code 0 = .ok (.aload_n 0, 1) := by decide +kernel
theorem d6_1 : decode prog_32_method_1_code 1 = .ok (.invokespecial 1, 3) := by decide +kernel
theorem d6_4 : decode prog_32_method_1_code 4 = .ok (.aload_n 0, 1) := by decide +kernel
theorem d6_5 : decode prog_32_method_1_code 5 = .ok (.aload_n 1, 1) := by decide +kernel
theorem d6_6 : decode prog_32_method_1_code 6 = .ok (.ldc 7, 2) := by decide +kernel
theorem d6_8 : decode prog_32_method_1_code 8 = .ok (.invokestatic 9, 3) := by decide +kernel
theorem pd__Ljava_lang_Object_Ljava_lang_String__Ljava_lang_Object_ : parseMethodDescriptor "(Ljava/lang/Object;Ljava/lang/String;)Ljava/lang/Object;" = some ⟨[(.object "java/lang/Object"), (.object "java/lang/String")], some (.object "java/lang/Object")⟩ := by decide +kernel
theorem d6_11 : decode prog_32_method_1_code 11 = .ok (.checkcast 15, 3) := by decide +kernel
theorem d6_14 : decode prog_32_method_1_code 14 = .ok (.putfield 17, 3) := by decide +kernel
theorem d6_17 : decode prog_32_method_1_code 17 = .ok (.aload_n 0, 1) := by decide +kernel
theorem d6_18 : decode prog_32_method_1_code 18 = .ok (.aload_n 2, 1) := by decide +kernel
theorem d6_19 : decode prog_32_method_1_code 19 = .ok (.ldc 22, 2) := by decide +kernel
theorem d6_21 : decode prog_32_method_1_code 21 = .ok (.invokestatic 9, 3) := by decide +kernel
theorem d6_24 : decode prog_32_method_1_code 24 = .ok (.checkcast 15, 3) := by decide +kernel
theorem d6_27 : decode prog_32_method_1_code 27 = .ok (.putfield 24, 3) := by decide +kernel
theorem d6_30 : decode prog_32_method_1_code 30 = .ok (.aload_n 0, 1) := by decide +kernel
theorem d6_31 : decode prog_32_method_1_code 31 = .ok (.aload_n 3, 1) := by decide +kernel
theorem d6_32 : decode prog_32_method_1_code 32 = .ok (.ldc 26, 2) := by decide +kernel
theorem d6_34 : decode prog_32_method_1_code 34 = .ok (.invokestatic 9, 3) := by decide +kernel
theorem d6_37 : decode prog_32_method_1_code 37 = .ok (.checkcast 15, 3) := by decide +kernel
theorem d6_40 : decode prog_32_method_1_code 40 = .ok (.putfield 28, 3) := by decide +kernel
theorem d6_43 : decode prog_32_method_1_code 43 = .ok (.return_, 1) := by decide +kernel
def Q_rm6 (Z : State) (a : Addr) (p1 : Addr) (p2 : Addr) (p3 : Addr) (u1 : Value) (u2 : Value) (u3 : Value) (h0 : Heap) (n0 : Nat) (v : Option Value) (h : Heap) (L : List Loc) : Prop := v = none ∧ Fr n0 L ∧ Keep h0 h [a] ∧ OT Z h a p1 p2 p3
theorem pn_com_example_sure_paths_surepaths_model_ClassToExistential : plainName "com/example/sure_paths/surepaths/model/ClassToExistential" = true := by first | (simp [plainName, overriddenIn]; done) | decide +kernel
theorem ef_rm6 (m : MethodId) (a : Addr) (p1 : Addr) (p2 : Addr) (p3 : Addr)  : entryFrame m #[(.ref a), (.ref p1), (.ref p2), (.ref p3)] 4 = mkF m 0 #[.val (.ref a), .val (.ref p1), .val (.ref p2), .val (.ref p3)] [] := by first | (simp [entryFrame, mkF, argsToLocals, Value.category]; done) | rfl
set_option maxRecDepth 65536 in
set_option maxHeartbeats 40000000 in
theorem rm6 (l : Launch) (Z : State) (a0 : Array Value) (hw : ∀ d ∈ tables_1, d.before a0 Z = true) (ws : List Jvm.Cond) (a : Addr) (p1 : Addr) (p2 : Addr) (p3 : Addr) (u1 : Value) (u2 : Value) (u3 : Value) (h0 : Heap) (n0 : Nat) (Z0 : n0 ≤ h0.size) (E : Exa Z h0 a "com/example/sure_paths/surepaths/model/ClassToExistential") (F1 : Fld Z h0 a "com/example/sure_paths/surepaths/model/ClassToExistential" "subClass" "Ljava/lang/String;" u1) (F2 : Fld Z h0 a "com/example/sure_paths/surepaths/model/ClassToExistential" "property" "Ljava/lang/String;" u2) (F3 : Fld Z h0 a "com/example/sure_paths/surepaths/model/ClassToExistential" "filler" "Ljava/lang/String;" u3) (g : n0 ≤ a) (Ep1 : Exa Z h0 p1 "java/lang/String") (Ep2 : Exa Z h0 p2 "java/lang/String") (Ep3 : Exa Z h0 p3 "java/lang/String") :
    MetFree l (⟨"com/example/sure_paths/surepaths/model/ClassToExistential", "<init>", "(Ljava/lang/String;Ljava/lang/String;Ljava/lang/String;)V"⟩ : MethodName) (head1 (Jvm.Cond.code (⟨"com/example/sure_paths/surepaths/model/ClassToExistential", "<init>", "(Ljava/lang/String;Ljava/lang/String;Ljava/lang/String;)V"⟩ : MethodName) prog_32_method_1_code 4 none :: ws) ({ frames := 1, cells := 6, slots := 100, locals := 14 } : Room)) (fun aa' U1' => aa' = #[(.ref a), (.ref p1), (.ref p2), (.ref p3)] ∧ Z.Warmed39 U1'.vm ∧ U1'.heap = h0 ∧ CHv Z own_EL U1'.vm h0) (fun _ _ _ _ _ => True) (fun _ U1' oo' U2' => ∃ vv' LL', oo' = .returned vv' ∧ (Q_rm6 Z a p1 p2 p3 u1 u2 u3 h0 n0) vv' U2'.heap LL' ∧ CHr Z own_EL U1'.vm U1'.heap U2'.vm U2'.heap ∧ ReturnedEndW U1' oo' U2' LL' ({ frames := 1, cells := 6, slots := 100, locals := 14 } : Room).cells ({ frames := 1, cells := 6, slots := 100, locals := 14 } : Room).slots) := by
  refine MetFree.of_bodySF (plainFor_of_name pn_com_example_sure_paths_surepaths_model_ClassToExistential) hisR ?_
  intro p e s m args below meth c s₁ Bd hml0 hP hK
  obtain ⟨rfl, hZ, hh, hCH⟩ := hP
  have hx := Bd.exec
  have hby := Bd.bytes
  have hml : c.maxLocals = 4 := hml0
  have hown : s.vm.findClass "com/example/sure_paths/surepaths/model/ClassToExistential" = some m.cls := findClass_of_methodNamed Bd.named
  have hnm := (name_of_methodNamed Bd.named Bd.method).1
  have X0 : Stand p l e ({ frames := 1, cells := 6, slots := 100, locals := 14 } : Room) (s.setVm s.vm) m #[(.ref a), (.ref p1), (.ref p2), (.ref p3)] below meth c s₁ [] 0 0 := Stand.of_body Bd
  have e0 : s₁.heap = h0 := by rw [← hh, Bd.state]; rfl
  have N0 := Fr.nil n0
  have hS : s.Since s.vm 0 := (State.WarmedH.refl s).since 0
  have hh0 := hh
  have hEL := own_EW hw
  have HC0 := CHr.refl hCH
  have lta := own_nlt (E.lt)
  have lt1 := own_nlt (Ep1.lt)
  have lt2 := own_nlt (Ep2.lt)
  have lt3 := own_nlt (Ep3.lt)
  refine go_of (A := s₁.setTop (entryFrame m #[(.ref a), (.ref p1), (.ref p2), (.ref p3)] 4)) (B := s₁.setTop (mkF m 0 #[.val (.ref a), .val (.ref p1), .val (.ref p2), .val (.ref p3)] [])) (fun _ kk' => castTop (ef_rm6 m a p1 p2 p3) kk') ?_
  refine go_of (B := (s₁.setTop (mkF m 1 #[.val (.ref a), .val (.ref p1), .val (.ref p2), .val (.ref p3)] [(.ref a)]))) (fun _ kk => XS.aloadN X0.here hx rfl (hb hby d6_0) rfl rfl kk) ?_
  obtain ⟨T1, X1, e1, st1⟩ := initO X0 hx hZ hown (hw _ (List.mem_of_getElem? (i := 35) rfl)) (hw _ (List.mem_of_getElem? (i := 22) rfl)) (hw _ (List.mem_of_getElem? (i := 23) rfl)) e0 (g := (mkF m 1 #[.val (.ref a), .val (.ref p1), .val (.ref p2), .val (.ref p3)] [(.ref a)])) rfl (by rw [hml]; rfl) rfl (hb hby d6_1) (by decide) (W := 0) (by show 2 * 0 + _ ≤ _; exact Nat.le_of_eq rfl) (by decide)
  refine go_of (B := (T1.setTop (mkF m 4 #[.val (.ref a), .val (.ref p1), .val (.ref p2), .val (.ref p3)] []))) (st1) ?_
  refine go_of (B := (T1.setTop (mkF m 5 #[.val (.ref a), .val (.ref p1), .val (.ref p2), .val (.ref p3)] [(.ref a)]))) (fun _ kk => XS.aloadN X1.here hx rfl (hb hby d6_4) rfl rfl kk) ?_
  refine go_of (B := (T1.setTop (mkF m 6 #[.val (.ref a), .val (.ref p1), .val (.ref p2), .val (.ref p3)] [(.ref p1), (.ref a)]))) (fun _ kk => XS.aloadN X1.here hx rfl (hb hby d6_5) rfl rfl kk) ?_
  obtain ⟨b2, T2, h2, k2, X2, e2, E2, hS, hk2, hZ, hown, HR2, -, st2⟩ := ldcOH X1 hx hZ hown (hw _ (List.mem_of_getElem? (i := 36) rfl)) (own_wS hw) e1 hS (by first | omega | exact own_ne (by omega) | exact own_le (by omega) | exact own_lt (by omega)) hEL HC0.1 (g := (mkF m 6 #[.val (.ref a), .val (.ref p1), .val (.ref p2), .val (.ref p3)] [(.ref p1), (.ref a)])) rfl (hb hby d6_6) (n := 32) (by decide) (by decide) (by decide) (by decide)
  have sz2 := E2.1
  have HC2 := HC0.trans HR2
  refine go_of (B := (T2.setTop (mkF m 8 #[.val (.ref a), .val (.ref p1), .val (.ref p2), .val (.ref p3)] [(.ref b2), (.ref p1), (.ref a)]))) (st2) ?_
  obtain ⟨_, _, ⟨T3, L3, k3, n3⟩, -, X3, ⟨Lc3, hQ3, l3, y3, z3⟩, st3⟩ := Jvm.LawKit.callS X2 hx (y := (⟨"java/util/Objects", "requireNonNull", "(Ljava/lang/Object;Ljava/lang/String;)Ljava/lang/Object;"⟩ : MethodName)) hown (mvT hZ (hw _ (List.mem_of_getElem? (i := 37) rfl))) (mvT hZ (hw _ (List.mem_of_getElem? (i := 38) rfl))) (mvT hZ (hw _ (List.mem_of_getElem? (i := 39) rfl))) (mvT hZ (hw _ (List.mem_of_getElem? (i := 40) rfl))) (by decide) (backOf (W := 1) (rm7 l Z a0 hw [] p1 b2 h2 n0 (by first | omega | exact own_ne (by omega) | exact own_le (by omega) | exact own_lt (by omega))) hZ (hw _ (List.mem_of_getElem? (i := 40) rfl)) (hw _ (List.mem_of_getElem? (i := 39) rfl)) (by decide) (by decide)) (g := (mkF m 8 #[.val (.ref a), .val (.ref p1), .val (.ref p2), .val (.ref p3)] [(.ref b2), (.ref p1), (.ref a)])) rfl (by rw [hml]; rfl) (argsL := [(.ref p1), (.ref b2)]) (rest := [(.ref a)]) (lenOf pd__Ljava_lang_Object_Ljava_lang_String__Ljava_lang_Object_ rfl) rfl (by show 2 * 0 + _ ≤ _; exact Nat.le_of_eq rfl) (hb hby d6_8) (fun _ _ => ⟨rfl, e2, (by decide : 2 + 0 ≤ _), (by decide : 36 + 0 ≤ _)⟩)
  dsimp only [Pt.U, Pt.locs, Pt.cells, Pt.slots] at X3 l3 y3 z3 st3 hQ3
  subst l3 y3 z3
  obtain ⟨rfl, N3q, e3⟩ := hQ3
  have N3 := Fr.app N0 N3q
  refine go_of (B := (T3.setTop (mkF m 11 #[.val (.ref a), .val (.ref p1), .val (.ref p2), .val (.ref p3)] [(.ref p1), (.ref a)]))) (st3) ?_
  have cf_5 := (Ep1.ext E2)
  obtain ⟨T4, X4, e4, st4⟩ := castY X3 hx hZ hown (hw _ (List.mem_of_getElem? (i := 41) rfl)) e3 (Ins.self cf_5) (g := (mkF m 11 #[.val (.ref a), .val (.ref p1), .val (.ref p2), .val (.ref p3)] [(.ref p1), (.ref a)])) rfl rfl (hb hby d6_11)
  refine go_of (B := (T4.setTop (mkF m 14 #[.val (.ref a), .val (.ref p1), .val (.ref p2), .val (.ref p3)] [(.ref p1), (.ref a)]))) (st4) ?_
  have cf_6 := (E.ext E2)
  have cf_7 := (F1.ext E2)
  obtain ⟨T8, h8, X8, e8, W8, st8⟩ := putF X4 hx hZ hown (host := "") (Or.inl (hw _ (List.mem_of_getElem? (i := 42) rfl))) Via.refl e4 cf_7 cf_6 (Or.inr ⟨(hw _ (List.mem_of_getElem? (i := 43) rfl)), rfl, hnm⟩) (hw _ (List.mem_of_getElem? (i := 1) rfl)) (ty := (.object "java/lang/String")) (by decide) rfl rfl (g := (mkF m 14 #[.val (.ref a), .val (.ref p1), .val (.ref p2), .val (.ref p3)] [(.ref p1), (.ref a)])) rfl rfl (hb hby d6_14)
  have sz8 := W8.size
  have Fw8 := cf_7.same W8
  have N8 := Fr.snoc X8 N3 (g : n0 ≤ a)
  have SF8 := (Safe.exa hZ.alike cf_6 (by decide) (by decide) : (Safe Z own_EL _ h2 a))
  have HC8 := HC2.trans (CHr.wr W8 SF8 HC2.1)
  refine go_of (B := (T8.setTop (mkF m 17 #[.val (.ref a), .val (.ref p1), .val (.ref p2), .val (.ref p3)] []))) (st8) ?_
  refine go_of (B := (T8.setTop (mkF m 18 #[.val (.ref a), .val (.ref p1), .val (.ref p2), .val (.ref p3)] [(.ref a)]))) (fun _ kk => XS.aloadN X8.here hx rfl (hb hby d6_17) rfl rfl kk) ?_
  refine go_of (B := (T8.setTop (mkF m 19 #[.val (.ref a), .val (.ref p1), .val (.ref p2), .val (.ref p3)] [(.ref p2), (.ref a)]))) (fun _ kk => XS.aloadN X8.here hx rfl (hb hby d6_18) rfl rfl kk) ?_
  obtain ⟨b9, T9, h9, k9, X9, e9, E9, hS, hk9, hZ, hown, HR9, -, st9⟩ := ldcOH X8 hx hZ hown (hw _ (List.mem_of_getElem? (i := 44) rfl)) (own_wS hw) e8 hS (by first | omega | exact own_ne (by omega) | exact own_le (by omega) | exact own_lt (by omega)) hEL HC8.1 (g := (mkF m 19 #[.val (.ref a), .val (.ref p1), .val (.ref p2), .val (.ref p3)] [(.ref p2), (.ref a)])) rfl (hb hby d6_19) (n := 32) (by decide) (by decide) (by decide) (by decide)
  have sz9 := E9.1
  have HC9 := HC8.trans HR9
  refine go_of (B := (T9.setTop (mkF m 21 #[.val (.ref a), .val (.ref p1), .val (.ref p2), .val (.ref p3)] [(.ref b9), (.ref p2), (.ref a)]))) (st9) ?_
  obtain ⟨_, _, ⟨T10, L10, k10, n10⟩, -, X10, ⟨Lc10, hQ10, l10, y10, z10⟩, st10⟩ := Jvm.LawKit.callS X9 hx (y := (⟨"java/util/Objects", "requireNonNull", "(Ljava/lang/Object;Ljava/lang/String;)Ljava/lang/Object;"⟩ : MethodName)) hown (mvT hZ (hw _ (List.mem_of_getElem? (i := 37) rfl))) (mvT hZ (hw _ (List.mem_of_getElem? (i := 38) rfl))) (mvT hZ (hw _ (List.mem_of_getElem? (i := 39) rfl))) (mvT hZ (hw _ (List.mem_of_getElem? (i := 40) rfl))) (by decide) (backOf (W := 1) (rm7 l Z a0 hw [] p2 b9 h9 n0 (by first | omega | exact own_ne (by omega) | exact own_le (by omega) | exact own_lt (by omega))) hZ (hw _ (List.mem_of_getElem? (i := 40) rfl)) (hw _ (List.mem_of_getElem? (i := 39) rfl)) (by decide) (by decide)) (g := (mkF m 21 #[.val (.ref a), .val (.ref p1), .val (.ref p2), .val (.ref p3)] [(.ref b9), (.ref p2), (.ref a)])) rfl (by rw [hml]; rfl) (argsL := [(.ref p2), (.ref b9)]) (rest := [(.ref a)]) (lenOf pd__Ljava_lang_Object_Ljava_lang_String__Ljava_lang_Object_ rfl) rfl (by show 2 * 0 + _ ≤ _; exact Nat.le_of_eq rfl) (hb hby d6_21) (fun _ _ => ⟨rfl, e9, (by decide : 4 + 0 ≤ _), (by decide : 72 + 0 ≤ _)⟩)
  dsimp only [Pt.U, Pt.locs, Pt.cells, Pt.slots] at X10 l10 y10 z10 st10 hQ10
  subst l10 y10 z10
  obtain ⟨rfl, N10q, e10⟩ := hQ10
  have N10 := Fr.app N8 N10q
  refine go_of (B := (T10.setTop (mkF m 24 #[.val (.ref a), .val (.ref p1), .val (.ref p2), .val (.ref p3)] [(.ref p2), (.ref a)]))) (st10) ?_
  have cf_12 := (((Ep2.ext E2).wr W8).ext E9)
  obtain ⟨T11, X11, e11, st11⟩ := castY X10 hx hZ hown (hw _ (List.mem_of_getElem? (i := 41) rfl)) e10 (Ins.self cf_12) (g := (mkF m 24 #[.val (.ref a), .val (.ref p1), .val (.ref p2), .val (.ref p3)] [(.ref p2), (.ref a)])) rfl rfl (hb hby d6_24)
  refine go_of (B := (T11.setTop (mkF m 27 #[.val (.ref a), .val (.ref p1), .val (.ref p2), .val (.ref p3)] [(.ref p2), (.ref a)]))) (st11) ?_
  have cf_13 := ((cf_6.wr W8).ext E9)
  have cf_14 := (((F2.ext E2).other W8 (Or.inr (slot_ne (Or.inr (hw _ (List.mem_of_getElem? (i := 46) rfl))) (Or.inr (hw _ (List.mem_of_getElem? (i := 43) rfl))) (by decide) (t := (.object "java/lang/String")) (t' := (.object "java/lang/String")) (by decide) (by decide)))).ext E9)
  obtain ⟨T15, h15, X15, e15, W15, st15⟩ := putF X11 hx hZ hown (host := "") (Or.inl (hw _ (List.mem_of_getElem? (i := 45) rfl))) Via.refl e11 cf_14 cf_13 (Or.inr ⟨(hw _ (List.mem_of_getElem? (i := 46) rfl)), rfl, hnm⟩) (hw _ (List.mem_of_getElem? (i := 1) rfl)) (ty := (.object "java/lang/String")) (by decide) rfl rfl (g := (mkF m 27 #[.val (.ref a), .val (.ref p1), .val (.ref p2), .val (.ref p3)] [(.ref p2), (.ref a)])) rfl rfl (hb hby d6_27)
  have sz15 := W15.size
  have Fw15 := cf_14.same W15
  have N15 := Fr.snoc X15 N10 (g : n0 ≤ a)
  have SF15 := (Safe.exa hZ.alike cf_13 (by decide) (by decide) : (Safe Z own_EL _ h9 a))
  have HC15 := HC9.trans (CHr.wr W15 SF15 HC9.1)
  refine go_of (B := (T15.setTop (mkF m 30 #[.val (.ref a), .val (.ref p1), .val (.ref p2), .val (.ref p3)] []))) (st15) ?_
  refine go_of (B := (T15.setTop (mkF m 31 #[.val (.ref a), .val (.ref p1), .val (.ref p2), .val (.ref p3)] [(.ref a)]))) (fun _ kk => XS.aloadN X15.here hx rfl (hb hby d6_30) rfl rfl kk) ?_
  refine go_of (B := (T15.setTop (mkF m 32 #[.val (.ref a), .val (.ref p1), .val (.ref p2), .val (.ref p3)] [(.ref p3), (.ref a)]))) (fun _ kk => XS.aloadN X15.here hx rfl (hb hby d6_31) rfl rfl kk) ?_
  obtain ⟨b16, T16, h16, k16, X16, e16, E16, hS, hk16, hZ, hown, HR16, -, st16⟩ := ldcOH X15 hx hZ hown (hw _ (List.mem_of_getElem? (i := 47) rfl)) (own_wS hw) e15 hS (by first | omega | exact own_ne (by omega) | exact own_le (by omega) | exact own_lt (by omega)) hEL HC15.1 (g := (mkF m 32 #[.val (.ref a), .val (.ref p1), .val (.ref p2), .val (.ref p3)] [(.ref p3), (.ref a)])) rfl (hb hby d6_32) (n := 24) (by decide) (by decide) (by decide) (by decide)
  have sz16 := E16.1
  have HC16 := HC15.trans HR16
  refine go_of (B := (T16.setTop (mkF m 34 #[.val (.ref a), .val (.ref p1), .val (.ref p2), .val (.ref p3)] [(.ref b16), (.ref p3), (.ref a)]))) (st16) ?_
  obtain ⟨_, _, ⟨T17, L17, k17, n17⟩, -, X17, ⟨Lc17, hQ17, l17, y17, z17⟩, st17⟩ := Jvm.LawKit.callS X16 hx (y := (⟨"java/util/Objects", "requireNonNull", "(Ljava/lang/Object;Ljava/lang/String;)Ljava/lang/Object;"⟩ : MethodName)) hown (mvT hZ (hw _ (List.mem_of_getElem? (i := 37) rfl))) (mvT hZ (hw _ (List.mem_of_getElem? (i := 38) rfl))) (mvT hZ (hw _ (List.mem_of_getElem? (i := 39) rfl))) (mvT hZ (hw _ (List.mem_of_getElem? (i := 40) rfl))) (by decide) (backOf (W := 1) (rm7 l Z a0 hw [] p3 b16 h16 n0 (by first | omega | exact own_ne (by omega) | exact own_le (by omega) | exact own_lt (by omega))) hZ (hw _ (List.mem_of_getElem? (i := 40) rfl)) (hw _ (List.mem_of_getElem? (i := 39) rfl)) (by decide) (by decide)) (g := (mkF m 34 #[.val (.ref a), .val (.ref p1), .val (.ref p2), .val (.ref p3)] [(.ref b16), (.ref p3), (.ref a)])) rfl (by rw [hml]; rfl) (argsL := [(.ref p3), (.ref b16)]) (rest := [(.ref a)]) (lenOf pd__Ljava_lang_Object_Ljava_lang_String__Ljava_lang_Object_ rfl) rfl (by show 2 * 0 + _ ≤ _; exact Nat.le_of_eq rfl) (hb hby d6_34) (fun _ _ => ⟨rfl, e16, (by decide : 6 + 0 ≤ _), (by decide : 100 + 0 ≤ _)⟩)
  dsimp only [Pt.U, Pt.locs, Pt.cells, Pt.slots] at X17 l17 y17 z17 st17 hQ17
  subst l17 y17 z17
  obtain ⟨rfl, N17q, e17⟩ := hQ17
  have N17 := Fr.app N15 N17q
  refine go_of (B := (T17.setTop (mkF m 37 #[.val (.ref a), .val (.ref p1), .val (.ref p2), .val (.ref p3)] [(.ref p3), (.ref a)]))) (st17) ?_
  have cf_19 := (((((Ep3.ext E2).wr W8).ext E9).wr W15).ext E16)
  obtain ⟨T18, X18, e18, st18⟩ := castY X17 hx hZ hown (hw _ (List.mem_of_getElem? (i := 41) rfl)) e17 (Ins.self cf_19) (g := (mkF m 37 #[.val (.ref a), .val (.ref p1), .val (.ref p2), .val (.ref p3)] [(.ref p3), (.ref a)])) rfl rfl (hb hby d6_37)
  refine go_of (B := (T18.setTop (mkF m 40 #[.val (.ref a), .val (.ref p1), .val (.ref p2), .val (.ref p3)] [(.ref p3), (.ref a)]))) (st18) ?_
  have cf_20 := ((cf_13.wr W15).ext E16)
  have cf_21 := (((((F3.ext E2).other W8 (Or.inr (slot_ne (Or.inr (hw _ (List.mem_of_getElem? (i := 49) rfl))) (Or.inr (hw _ (List.mem_of_getElem? (i := 43) rfl))) (by decide) (t := (.object "java/lang/String")) (t' := (.object "java/lang/String")) (by decide) (by decide)))).ext E9).other W15 (Or.inr (slot_ne (Or.inr (hw _ (List.mem_of_getElem? (i := 49) rfl))) (Or.inr (hw _ (List.mem_of_getElem? (i := 46) rfl))) (by decide) (t := (.object "java/lang/String")) (t' := (.object "java/lang/String")) (by decide) (by decide)))).ext E16)
  obtain ⟨T22, h22, X22, e22, W22, st22⟩ := putF X18 hx hZ hown (host := "") (Or.inl (hw _ (List.mem_of_getElem? (i := 48) rfl))) Via.refl e18 cf_21 cf_20 (Or.inr ⟨(hw _ (List.mem_of_getElem? (i := 49) rfl)), rfl, hnm⟩) (hw _ (List.mem_of_getElem? (i := 1) rfl)) (ty := (.object "java/lang/String")) (by decide) rfl rfl (g := (mkF m 40 #[.val (.ref a), .val (.ref p1), .val (.ref p2), .val (.ref p3)] [(.ref p3), (.ref a)])) rfl rfl (hb hby d6_40)
  have sz22 := W22.size
  have Fw22 := cf_21.same W22
  have N22 := Fr.snoc X22 N17 (g : n0 ≤ a)
  have SF22 := (Safe.exa hZ.alike cf_20 (by decide) (by decide) : (Safe Z own_EL _ h16 a))
  have HC22 := HC16.trans (CHr.wr W22 SF22 HC16.1)
  refine go_of (B := (T22.setTop (mkF m 43 #[.val (.ref a), .val (.ref p1), .val (.ref p2), .val (.ref p3)] []))) (st22) ?_
  have cf_23 := (cf_20.wr W22)
  have cf_24 := ((((Fw8.ext E9).other W15 (Or.inr (slot_ne (Or.inr (hw _ (List.mem_of_getElem? (i := 43) rfl))) (Or.inr (hw _ (List.mem_of_getElem? (i := 46) rfl))) (by decide) (t := (.object "java/lang/String")) (t' := (.object "java/lang/String")) (by decide) (by decide)))).ext E16).other W22 (Or.inr (slot_ne (Or.inr (hw _ (List.mem_of_getElem? (i := 43) rfl))) (Or.inr (hw _ (List.mem_of_getElem? (i := 49) rfl))) (by decide) (t := (.object "java/lang/String")) (t' := (.object "java/lang/String")) (by decide) (by decide))))
  have cf_25 := ((Fw15.ext E16).other W22 (Or.inr (slot_ne (Or.inr (hw _ (List.mem_of_getElem? (i := 46) rfl))) (Or.inr (hw _ (List.mem_of_getElem? (i := 49) rfl))) (by decide) (t := (.object "java/lang/String")) (t' := (.object "java/lang/String")) (by decide) (by decide))))
  refine go_endH X22 hZ hEL HC22 hh0 e22 hS (by rw [e22]; omega) (v := none) (fun _ => rfl) Bd.notSynchronized (by decide) (by decide) (Q := (Q_rm6 Z a p1 p2 p3 u1 u2 u3 h0 n0)) ?_ (fun fs hr => X22.returnOut hx Bd.returns (hb hby d6_43) hr)
  show (fun (v : Option Value) (h : Heap) (L : List Loc) => v = none ∧ Fr n0 L ∧ Keep h0 h [a] ∧ OT Z h a p1 p2 p3) (none) T22.heap _
  rw [e22]
  exact ⟨rfl, N22, (((((((Keep.refl h0 [a]).ext E2).wr W8 (Or.inl (List.mem_of_getElem? (i := 0) rfl))).ext E9).wr W15 (Or.inl (List.mem_of_getElem? (i := 0) rfl))).ext E16).wr W22 (Or.inl (List.mem_of_getElem? (i := 0) rfl))), ⟨cf_23, cf_24, cf_25, Fw22⟩⟩
theorem d12_0 : decode prog_31_method_1_code 0 = .ok (.aload_n 0, 1) := by decide +kernel
theorem d12_1 : decode prog_31_method_1_code 1 = .ok (.invokespecial 1, 3) := by decide +kernel
theorem d12_4 : decode prog_31_method_1_code 4 = .ok (.aload_n 0, 1) := by decide +kernel
theorem d12_5 : decode prog_31_method_1_code 5 = .ok (.aload_n 1, 1) := by decide +kernel
theorem d12_6 : decode prog_31_method_1_code 6 = .ok (.ldc 7, 2) := by decide +kernel
theorem d12_8 : decode prog_31_method_1_code 8 = .ok (.invokestatic 9, 3) := by decide +kernel
theorem d12_11 : decode prog_31_method_1_code 11 = .ok (.checkcast 15, 3) := by decide +kernel
theorem d12_14 : decode prog_31_method_1_code 14 = .ok (.putfield 17, 3) := by decide +kernel
theorem d12_17 : decode prog_31_method_1_code 17 = .ok (.aload_n 0, 1) := by decide +kernel
theorem d12_18 : decode prog_31_method_1_code 18 = .ok (.aload_n 2, 1) := by decide +kernel
theorem d12_19 : decode prog_31_method_1_code 19 = .ok (.ldc 22, 2) := by decide +kernel
theorem d12_21 : decode prog_31_method_1_code 21 = .ok (.invokestatic 9, 3) := by decide +kernel
theorem d12_24 : decode prog_31_method_1_code 24 = .ok (.checkcast 15, 3) := by decide +kernel
theorem d12_27 : decode prog_31_method_1_code 27 = .ok (.putfield 24, 3) := by decide +kernel
theorem d12_30 : decode prog_31_method_1_code 30 = .ok (.return_, 1) := by decide +kernel
def Q_rm12 (Z : State) (a : Addr) (p1 : Addr) (p2 : Addr) (u1 : Value) (u2 : Value) (h0 : Heap) (n0 : Nat) (v : Option Value) (h : Heap) (L : List Loc) : Prop := v = none ∧ Fr n0 L ∧ Keep h0 h [a] ∧ OC Z h a p1 p2
theorem pn_com_example_sure_paths_surepaths_model_ClassInclusion : plainName "com/example/sure_paths/surepaths/model/ClassInclusion" = true := by first | (simp [plainName, overriddenIn]; done) | decide +kernel
theorem ef_rm12 (m : MethodId) (a : Addr) (p1 : Addr) (p2 : Addr)  : entryFrame m #[(.ref a), (.ref p1), (.ref p2)] 3 = mkF m 0 #[.val (.ref a), .val (.ref p1), .val (.ref p2)] [] := by first | (simp [entryFrame, mkF, argsToLocals, Value.category]; done) | rfl
set_option maxRecDepth 65536 in
set_option maxHeartbeats 40000000 in
theorem rm12 (l : Launch) (Z : State) (a0 : Array Value) (hw : ∀ d ∈ tables_1, d.before a0 Z = true) (ws : List Jvm.Cond) (a : Addr) (p1 : Addr) (p2 : Addr) (u1 : Value) (u2 : Value) (h0 : Heap) (n0 : Nat) (Z0 : n0 ≤ h0.size) (E : Exa Z h0 a "com/example/sure_paths/surepaths/model/ClassInclusion") (F1 : Fld Z h0 a "com/example/sure_paths/surepaths/model/ClassInclusion" "subClass" "Ljava/lang/String;" u1) (F2 : Fld Z h0 a "com/example/sure_paths/surepaths/model/ClassInclusion" "superClass" "Ljava/lang/String;" u2) (g : n0 ≤ a) (Ep1 : Exa Z h0 p1 "java/lang/String") (Ep2 : Exa Z h0 p2 "java/lang/String") :
    MetFree l (⟨"com/example/sure_paths/surepaths/model/ClassInclusion", "<init>", "(Ljava/lang/String;Ljava/lang/String;)V"⟩ : MethodName) (head1 (Jvm.Cond.code (⟨"com/example/sure_paths/surepaths/model/ClassInclusion", "<init>", "(Ljava/lang/String;Ljava/lang/String;)V"⟩ : MethodName) prog_31_method_1_code 3 none :: ws) ({ frames := 1, cells := 4, slots := 80, locals := 14 } : Room)) (fun aa' U1' => aa' = #[(.ref a), (.ref p1), (.ref p2)] ∧ Z.Warmed39 U1'.vm ∧ U1'.heap = h0 ∧ CHv Z own_EL U1'.vm h0) (fun _ _ _ _ _ => True) (fun _ U1' oo' U2' => ∃ vv' LL', oo' = .returned vv' ∧ (Q_rm12 Z a p1 p2 u1 u2 h0 n0) vv' U2'.heap LL' ∧ CHr Z own_EL U1'.vm U1'.heap U2'.vm U2'.heap ∧ ReturnedEndW U1' oo' U2' LL' ({ frames := 1, cells := 4, slots := 80, locals := 14 } : Room).cells ({ frames := 1, cells := 4, slots := 80, locals := 14 } : Room).slots) := by
  refine MetFree.of_bodySF (plainFor_of_name pn_com_example_sure_paths_surepaths_model_ClassInclusion) hisR ?_
  intro p e s m args below meth c s₁ Bd hml0 hP hK
  obtain ⟨rfl, hZ, hh, hCH⟩ := hP
  have hx := Bd.exec
  have hby := Bd.bytes
  have hml : c.maxLocals = 3 := hml0
  have hown : s.vm.findClass "com/example/sure_paths/surepaths/model/ClassInclusion" = some m.cls := findClass_of_methodNamed Bd.named
  have hnm := (name_of_methodNamed Bd.named Bd.method).1
  have X0 : Stand p l e ({ frames := 1, cells := 4, slots := 80, locals := 14 } : Room) (s.setVm s.vm) m #[(.ref a), (.ref p1), (.ref p2)] below meth c s₁ [] 0 0 := Stand.of_body Bd
  have e0 : s₁.heap = h0 := by rw [← hh, Bd.state]; rfl
  have N0 := Fr.nil n0
  have hS : s.Since s.vm 0 := (State.WarmedH.refl s).since 0
  have hh0 := hh
  have hEL := own_EW hw
  have HC0 := CHr.refl hCH
  have lta := own_nlt (E.lt)
  have lt1 := own_nlt (Ep1.lt)
  have lt2 := own_nlt (Ep2.lt)
  refine go_of (A := s₁.setTop (entryFrame m #[(.ref a), (.ref p1), (.ref p2)] 3)) (B := s₁.setTop (mkF m 0 #[.val (.ref a), .val (.ref p1), .val (.ref p2)] [])) (fun _ kk' => castTop (ef_rm12 m a p1 p2) kk') ?_
  refine go_of (B := (s₁.setTop (mkF m 1 #[.val (.ref a), .val (.ref p1), .val (.ref p2)] [(.ref a)]))) (fun _ kk => XS.aloadN X0.here hx rfl (hb hby d12_0) rfl rfl kk) ?_
  obtain ⟨T1, X1, e1, st1⟩ := initO X0 hx hZ hown (hw _ (List.mem_of_getElem? (i := 77) rfl)) (hw _ (List.mem_of_getElem? (i := 22) rfl)) (hw _ (List.mem_of_getElem? (i := 23) rfl)) e0 (g := (mkF m 1 #[.val (.ref a), .val (.ref p1), .val (.ref p2)] [(.ref a)])) rfl (by rw [hml]; rfl) rfl (hb hby d12_1) (by decide) (W := 0) (by show 2 * 0 + _ ≤ _; exact Nat.le_of_eq rfl) (by decide)
  refine go_of (B := (T1.setTop (mkF m 4 #[.val (.ref a), .val (.ref p1), .val (.ref p2)] []))) (st1) ?_
  refine go_of (B := (T1.setTop (mkF m 5 #[.val (.ref a), .val (.ref p1), .val (.ref p2)] [(.ref a)]))) (fun _ kk => XS.aloadN X1.here hx rfl (hb hby d12_4) rfl rfl kk) ?_
  refine go_of (B := (T1.setTop (mkF m 6 #[.val (.ref a), .val (.ref p1), .val (.ref p2)] [(.ref p1), (.ref a)]))) (fun _ kk => XS.aloadN X1.here hx rfl (hb hby d12_5) rfl rfl kk) ?_
  obtain ⟨b2, T2, h2, k2, X2, e2, E2, hS, hk2, hZ, hown, HR2, -, st2⟩ := ldcOH X1 hx hZ hown (hw _ (List.mem_of_getElem? (i := 78) rfl)) (own_wS hw) e1 hS (by first | omega | exact own_ne (by omega) | exact own_le (by omega) | exact own_lt (by omega)) hEL HC0.1 (g := (mkF m 6 #[.val (.ref a), .val (.ref p1), .val (.ref p2)] [(.ref p1), (.ref a)])) rfl (hb hby d12_6) (n := 32) (by decide) (by decide) (by decide) (by decide)
  have sz2 := E2.1
  have HC2 := HC0.trans HR2
  refine go_of (B := (T2.setTop (mkF m 8 #[.val (.ref a), .val (.ref p1), .val (.ref p2)] [(.ref b2), (.ref p1), (.ref a)]))) (st2) ?_
  obtain ⟨_, _, ⟨T3, L3, k3, n3⟩, -, X3, ⟨Lc3, hQ3, l3, y3, z3⟩, st3⟩ := Jvm.LawKit.callS X2 hx (y := (⟨"java/util/Objects", "requireNonNull", "(Ljava/lang/Object;Ljava/lang/String;)Ljava/lang/Object;"⟩ : MethodName)) hown (mvT hZ (hw _ (List.mem_of_getElem? (i := 79) rfl))) (mvT hZ (hw _ (List.mem_of_getElem? (i := 38) rfl))) (mvT hZ (hw _ (List.mem_of_getElem? (i := 39) rfl))) (mvT hZ (hw _ (List.mem_of_getElem? (i := 40) rfl))) (by decide) (backOf (W := 1) (rm7 l Z a0 hw [] p1 b2 h2 n0 (by first | omega | exact own_ne (by omega) | exact own_le (by omega) | exact own_lt (by omega))) hZ (hw _ (List.mem_of_getElem? (i := 40) rfl)) (hw _ (List.mem_of_getElem? (i := 39) rfl)) (by decide) (by decide)) (g := (mkF m 8 #[.val (.ref a), .val (.ref p1), .val (.ref p2)] [(.ref b2), (.ref p1), (.ref a)])) rfl (by rw [hml]; rfl) (argsL := [(.ref p1), (.ref b2)]) (rest := [(.ref a)]) (lenOf pd__Ljava_lang_Object_Ljava_lang_String__Ljava_lang_Object_ rfl) rfl (by show 2 * 0 + _ ≤ _; exact Nat.le_of_eq rfl) (hb hby d12_8) (fun _ _ => ⟨rfl, e2, (by decide : 2 + 0 ≤ _), (by decide : 36 + 0 ≤ _)⟩)
  dsimp only [Pt.U, Pt.locs, Pt.cells, Pt.slots] at X3 l3 y3 z3 st3 hQ3
  subst l3 y3 z3
  obtain ⟨rfl, N3q, e3⟩ := hQ3
  have N3 := Fr.app N0 N3q
  refine go_of (B := (T3.setTop (mkF m 11 #[.val (.ref a), .val (.ref p1), .val (.ref p2)] [(.ref p1), (.ref a)]))) (st3) ?_
  have cf_5 := (Ep1.ext E2)
  obtain ⟨T4, X4, e4, st4⟩ := castY X3 hx hZ hown (hw _ (List.mem_of_getElem? (i := 80) rfl)) e3 (Ins.self cf_5) (g := (mkF m 11 #[.val (.ref a), .val (.ref p1), .val (.ref p2)] [(.ref p1), (.ref a)])) rfl rfl (hb hby d12_11)
  refine go_of (B := (T4.setTop (mkF m 14 #[.val (.ref a), .val (.ref p1), .val (.ref p2)] [(.ref p1), (.ref a)]))) (st4) ?_
  have cf_6 := (E.ext E2)
  have cf_7 := (F1.ext E2)
  obtain ⟨T8, h8, X8, e8, W8, st8⟩ := putF X4 hx hZ hown (host := "") (Or.inl (hw _ (List.mem_of_getElem? (i := 81) rfl))) Via.refl e4 cf_7 cf_6 (Or.inr ⟨(hw _ (List.mem_of_getElem? (i := 82) rfl)), rfl, hnm⟩) (hw _ (List.mem_of_getElem? (i := 72) rfl)) (ty := (.object "java/lang/String")) (by decide) rfl rfl (g := (mkF m 14 #[.val (.ref a), .val (.ref p1), .val (.ref p2)] [(.ref p1), (.ref a)])) rfl rfl (hb hby d12_14)
  have sz8 := W8.size
  have Fw8 := cf_7.same W8
  have N8 := Fr.snoc X8 N3 (g : n0 ≤ a)
  have SF8 := (Safe.exa hZ.alike cf_6 (by decide) (by decide) : (Safe Z own_EL _ h2 a))
  have HC8 := HC2.trans (CHr.wr W8 SF8 HC2.1)
  refine go_of (B := (T8.setTop (mkF m 17 #[.val (.ref a), .val (.ref p1), .val (.ref p2)] []))) (st8) ?_
  refine go_of (B := (T8.setTop (mkF m 18 #[.val (.ref a), .val (.ref p1), .val (.ref p2)] [(.ref a)]))) (fun _ kk => XS.aloadN X8.here hx rfl (hb hby d12_17) rfl rfl kk) ?_
  refine go_of (B := (T8.setTop (mkF m 19 #[.val (.ref a), .val (.ref p1), .val (.ref p2)] [(.ref p2), (.ref a)]))) (fun _ kk => XS.aloadN X8.here hx rfl (hb hby d12_18) rfl rfl kk) ?_
  obtain ⟨b9, T9, h9, k9, X9, e9, E9, hS, hk9, hZ, hown, HR9, -, st9⟩ := ldcOH X8 hx hZ hown (hw _ (List.mem_of_getElem? (i := 83) rfl)) (own_wS hw) e8 hS (by first | omega | exact own_ne (by omega) | exact own_le (by omega) | exact own_lt (by omega)) hEL HC8.1 (g := (mkF m 19 #[.val (.ref a), .val (.ref p1), .val (.ref p2)] [(.ref p2), (.ref a)])) rfl (hb hby d12_19) (n := 40) (by decide) (by decide) (by decide) (by decide)
  have sz9 := E9.1
  have HC9 := HC8.trans HR9
  refine go_of (B := (T9.setTop (mkF m 21 #[.val (.ref a), .val (.ref p1), .val (.ref p2)] [(.ref b9), (.ref p2), (.ref a)]))) (st9) ?_
  obtain ⟨_, _, ⟨T10, L10, k10, n10⟩, -, X10, ⟨Lc10, hQ10, l10, y10, z10⟩, st10⟩ := Jvm.LawKit.callS X9 hx (y := (⟨"java/util/Objects", "requireNonNull", "(Ljava/lang/Object;Ljava/lang/String;)Ljava/lang/Object;"⟩ : MethodName)) hown (mvT hZ (hw _ (List.mem_of_getElem? (i := 79) rfl))) (mvT hZ (hw _ (List.mem_of_getElem? (i := 38) rfl))) (mvT hZ (hw _ (List.mem_of_getElem? (i := 39) rfl))) (mvT hZ (hw _ (List.mem_of_getElem? (i := 40) rfl))) (by decide) (backOf (W := 1) (rm7 l Z a0 hw [] p2 b9 h9 n0 (by first | omega | exact own_ne (by omega) | exact own_le (by omega) | exact own_lt (by omega))) hZ (hw _ (List.mem_of_getElem? (i := 40) rfl)) (hw _ (List.mem_of_getElem? (i := 39) rfl)) (by decide) (by decide)) (g := (mkF m 21 #[.val (.ref a), .val (.ref p1), .val (.ref p2)] [(.ref b9), (.ref p2), (.ref a)])) rfl (by rw [hml]; rfl) (argsL := [(.ref p2), (.ref b9)]) (rest := [(.ref a)]) (lenOf pd__Ljava_lang_Object_Ljava_lang_String__Ljava_lang_Object_ rfl) rfl (by show 2 * 0 + _ ≤ _; exact Nat.le_of_eq rfl) (hb hby d12_21) (fun _ _ => ⟨rfl, e9, (by decide : 4 + 0 ≤ _), (by decide : 80 + 0 ≤ _)⟩)
  dsimp only [Pt.U, Pt.locs, Pt.cells, Pt.slots] at X10 l10 y10 z10 st10 hQ10
  subst l10 y10 z10
  obtain ⟨rfl, N10q, e10⟩ := hQ10
  have N10 := Fr.app N8 N10q
  refine go_of (B := (T10.setTop (mkF m 24 #[.val (.ref a), .val (.ref p1), .val (.ref p2)] [(.ref p2), (.ref a)]))) (st10) ?_
  have cf_12 := (((Ep2.ext E2).wr W8).ext E9)
  obtain ⟨T11, X11, e11, st11⟩ := castY X10 hx hZ hown (hw _ (List.mem_of_getElem? (i := 80) rfl)) e10 (Ins.self cf_12) (g := (mkF m 24 #[.val (.ref a), .val (.ref p1), .val (.ref p2)] [(.ref p2), (.ref a)])) rfl rfl (hb hby d12_24)
  refine go_of (B := (T11.setTop (mkF m 27 #[.val (.ref a), .val (.ref p1), .val (.ref p2)] [(.ref p2), (.ref a)]))) (st11) ?_
  have cf_13 := ((cf_6.wr W8).ext E9)
  have cf_14 := (((F2.ext E2).other W8 (Or.inr (slot_ne (Or.inr (hw _ (List.mem_of_getElem? (i := 85) rfl))) (Or.inr (hw _ (List.mem_of_getElem? (i := 82) rfl))) (by decide) (t := (.object "java/lang/String")) (t' := (.object "java/lang/String")) (by decide) (by decide)))).ext E9)
  obtain ⟨T15, h15, X15, e15, W15, st15⟩ := putF X11 hx hZ hown (host := "") (Or.inl (hw _ (List.mem_of_getElem? (i := 84) rfl))) Via.refl e11 cf_14 cf_13 (Or.inr ⟨(hw _ (List.mem_of_getElem? (i := 85) rfl)), rfl, hnm⟩) (hw _ (List.mem_of_getElem? (i := 72) rfl)) (ty := (.object "java/lang/String")) (by decide) rfl rfl (g := (mkF m 27 #[.val (.ref a), .val (.ref p1), .val (.ref p2)] [(.ref p2), (.ref a)])) rfl rfl (hb hby d12_27)
  have sz15 := W15.size
  have Fw15 := cf_14.same W15
  have N15 := Fr.snoc X15 N10 (g : n0 ≤ a)
  have SF15 := (Safe.exa hZ.alike cf_13 (by decide) (by decide) : (Safe Z own_EL _ h9 a))
  have HC15 := HC9.trans (CHr.wr W15 SF15 HC9.1)
  refine go_of (B := (T15.setTop (mkF m 30 #[.val (.ref a), .val (.ref p1), .val (.ref p2)] []))) (st15) ?_
  have cf_16 := (cf_13.wr W15)
  have cf_17 := ((Fw8.ext E9).other W15 (Or.inr (slot_ne (Or.inr (hw _ (List.mem_of_getElem? (i := 82) rfl))) (Or.inr (hw _ (List.mem_of_getElem? (i := 85) rfl))) (by decide) (t := (.object "java/lang/String")) (t' := (.object "java/lang/String")) (by decide) (by decide))))
  refine go_endH X15 hZ hEL HC15 hh0 e15 hS (by rw [e15]; omega) (v := none) (fun _ => rfl) Bd.notSynchronized (by decide) (by decide) (Q := (Q_rm12 Z a p1 p2 u1 u2 h0 n0)) ?_ (fun fs hr => X15.returnOut hx Bd.returns (hb hby d12_30) hr)
  show (fun (v : Option Value) (h : Heap) (L : List Loc) => v = none ∧ Fr n0 L ∧ Keep h0 h [a] ∧ OC Z h a p1 p2) (none) T15.heap _
  rw [e15]
  exact ⟨rfl, N15, (((((Keep.refl h0 [a]).ext E2).wr W8 (Or.inl (List.mem_of_getElem? (i := 0) rfl))).ext E9).wr W15 (Or.inl (List.mem_of_getElem? (i := 0) rfl))), ⟨cf_16, cf_17, Fw15⟩⟩
theorem d9_0 : decode prog_32_method_5_code 0 = .ok (.aload_n 1, 1) := by decide +kernel
theorem d9_1 : decode prog_32_method_5_code 1 = .ok (.instanceof 18, 3) := by decide +kernel
theorem d9_4 : decode prog_32_method_5_code 4 = .ok (.ifCond .eq 54, 3) := by decide +kernel
theorem d9_58 : decode prog_32_method_5_code 58 = .ok (.iconst 0, 1) := by decide +kernel
theorem d9_59 : decode prog_32_method_5_code 59 = .ok (.ireturn, 1) := by decide +kernel
def Q_eq_null (Z : State) (a : Addr) (h0 : Heap) (n0 : Nat) (v : Option Value) (h : Heap) (L : List Loc) : Prop := v = some (.int 0) ∧ Fr n0 L ∧ h = h0
theorem ef_eq_null (m : MethodId) (a : Addr)  : entryFrame m #[(.ref a), .null] 3 = mkF m 0 #[.val (.ref a), .val .null, .unset] [] := by first | (simp [entryFrame, mkF, argsToLocals, Value.category]; done) | rfl
set_option maxRecDepth 65536 in
set_option maxHeartbeats 40000000 in
theorem eq_null (l : Launch) (Z : State) (a0 : Array Value) (hw : ∀ d ∈ tables_1, d.before a0 Z = true) (ws : List Jvm.Cond) (a : Addr) (h0 : Heap) (n0 : Nat) (Z0 : n0 ≤ h0.size)  :
    MetFree l (⟨"com/example/sure_paths/surepaths/model/ClassToExistential", "equals", "(Ljava/lang/Object;)Z"⟩ : MethodName) (head1 (Jvm.Cond.code (⟨"com/example/sure_paths/surepaths/model/ClassToExistential", "equals", "(Ljava/lang/Object;)Z"⟩ : MethodName) prog_32_method_5_code 3 (some .boolean) :: ws) ({ frames := 0, cells := 0, slots := 0, locals := 0 } : Room)) (fun aa' U1' => aa' = #[(.ref a), .null] ∧ Z.Warmed39 U1'.vm ∧ U1'.heap = h0) (fun _ _ _ _ _ => True) (fun _ U1' oo' U2' => ∃ vv' LL', oo' = .returned vv' ∧ (Q_eq_null Z a h0 n0) vv' U2'.heap LL' ∧ FrameEnd U1' oo' U2' LL' ({ frames := 0, cells := 0, slots := 0, locals := 0 } : Room).cells ({ frames := 0, cells := 0, slots := 0, locals := 0 } : Room).slots) := by
  refine MetFree.of_bodySF (plainFor_of_name pn_com_example_sure_paths_surepaths_model_ClassToExistential) hisR ?_
  intro p e s m args below meth c s₁ Bd hml0 hP hK
  obtain ⟨rfl, hZ, hh⟩ := hP
  have hx := Bd.exec
  have hby := Bd.bytes
  have hml : c.maxLocals = 3 := hml0
  have hown : s.vm.findClass "com/example/sure_paths/surepaths/model/ClassToExistential" = some m.cls := findClass_of_methodNamed Bd.named
  have hnm := (name_of_methodNamed Bd.named Bd.method).1
  have X0 : Stand p l e ({ frames := 0, cells := 0, slots := 0, locals := 0 } : Room) s m #[(.ref a), .null] below meth c s₁ [] 0 0 := Stand.of_body Bd
  have e0 : s₁.heap = h0 := by rw [← hh, Bd.state]; rfl
  have N0 := Fr.nil n0
  refine go_of (A := s₁.setTop (entryFrame m #[(.ref a), .null] 3)) (B := s₁.setTop (mkF m 0 #[.val (.ref a), .val .null, .unset] [])) (fun _ kk' => castTop (ef_eq_null m a) kk') ?_
  refine go_of (B := (s₁.setTop (mkF m 1 #[.val (.ref a), .val .null, .unset] [.null]))) (fun _ kk => XS.aloadN X0.here hx rfl (hb hby d9_0) rfl rfl kk) ?_
  refine go_of (B := (s₁.setTop (mkF m 4 #[.val (.ref a), .val .null, .unset] [(.int (0 : Int32))]))) (fun _ kk => X0.instanceofNull hx (g := (mkF m 1 #[.val (.ref a), .val .null, .unset] [.null])) rfl rfl (hb hby d9_1) _ kk) ?_
  refine go_of (B := (s₁.setTop (mkF m 58 #[.val (.ref a), .val .null, .unset] []))) (fun _ kk => XS.ifYes X0.here hx rfl (pc0 := 4) (pc' := 58) rfl (hb hby d9_4) rfl ((if0 _ _).trans (teq (by decide : (0 : Int32) = (0 : Int32))).1) (by decide) (by decide) kk) ?_
  refine go_of (B := (s₁.setTop (mkF m 59 #[.val (.ref a), .val .null, .unset] [(.int (0 : Int32))]))) (fun _ kk => XS.iconst X0.here hx rfl (hb hby d9_58) kk) ?_
  refine go_end X0 (v := some (.int (nar .boolean (0 : Int32)))) (fun h => by rw [Bd.returns] at h; cases h) Bd.notSynchronized (by decide) (by decide) (Q := (Q_eq_null Z a h0 n0)) ?_ (fun fs hr => retN X0 hx (t := .boolean) Bd.returns (by simp) (hb hby d9_59) hr)
  show (fun (v : Option Value) (h : Heap) (L : List Loc) => v = some (.int 0) ∧ Fr n0 L ∧ h = h0) (some (.int (nar .boolean (0 : Int32)))) s₁.heap _
  rw [e0]
  exact ⟨rfl, N0, rfl⟩
def Q_eq_other (Z : State) (a : Addr) (bb : Addr) (h0 : Heap) (n0 : Nat) (v : Option Value) (h : Heap) (L : List Loc) : Prop := v = some (.int 0) ∧ Fr n0 L ∧ h = h0
theorem ef_eq_other (m : MethodId) (a : Addr) (bb : Addr)  : entryFrame m #[(.ref a), (.ref bb)] 3 = mkF m 0 #[.val (.ref a), .val (.ref bb), .unset] [] := by first | (simp [entryFrame, mkF, argsToLocals, Value.category]; done) | rfl
set_option maxRecDepth 65536 in
set_option maxHeartbeats 40000000 in
theorem eq_other (l : Launch) (Z : State) (a0 : Array Value) (hw : ∀ d ∈ tables_1, d.before a0 Z = true) (ws : List Jvm.Cond) (a : Addr) (bb : Addr) (h0 : Heap) (n0 : Nat) (Z0 : n0 ≤ h0.size) (E : Exa Z h0 bb "com/example/sure_paths/surepaths/model/ClassInclusion") :
    MetFree l (⟨"com/example/sure_paths/surepaths/model/ClassToExistential", "equals", "(Ljava/lang/Object;)Z"⟩ : MethodName) (head1 (Jvm.Cond.code (⟨"com/example/sure_paths/surepaths/model/ClassToExistential", "equals", "(Ljava/lang/Object;)Z"⟩ : MethodName) prog_32_method_5_code 3 (some .boolean) :: ws) ({ frames := 0, cells := 0, slots := 0, locals := 0 } : Room)) (fun aa' U1' => aa' = #[(.ref a), (.ref bb)] ∧ Z.Warmed39 U1'.vm ∧ U1'.heap = h0) (fun _ _ _ _ _ => True) (fun _ U1' oo' U2' => ∃ vv' LL', oo' = .returned vv' ∧ (Q_eq_other Z a bb h0 n0) vv' U2'.heap LL' ∧ FrameEnd U1' oo' U2' LL' ({ frames := 0, cells := 0, slots := 0, locals := 0 } : Room).cells ({ frames := 0, cells := 0, slots := 0, locals := 0 } : Room).slots) := by
  refine MetFree.of_bodySF (plainFor_of_name pn_com_example_sure_paths_surepaths_model_ClassToExistential) hisR ?_
  intro p e s m args below meth c s₁ Bd hml0 hP hK
  obtain ⟨rfl, hZ, hh⟩ := hP
  have hx := Bd.exec
  have hby := Bd.bytes
  have hml : c.maxLocals = 3 := hml0
  have hown : s.vm.findClass "com/example/sure_paths/surepaths/model/ClassToExistential" = some m.cls := findClass_of_methodNamed Bd.named
  have hnm := (name_of_methodNamed Bd.named Bd.method).1
  have X0 : Stand p l e ({ frames := 0, cells := 0, slots := 0, locals := 0 } : Room) s m #[(.ref a), (.ref bb)] below meth c s₁ [] 0 0 := Stand.of_body Bd
  have e0 : s₁.heap = h0 := by rw [← hh, Bd.state]; rfl
  have N0 := Fr.nil n0
  refine go_of (A := s₁.setTop (entryFrame m #[(.ref a), (.ref bb)] 3)) (B := s₁.setTop (mkF m 0 #[.val (.ref a), .val (.ref bb), .unset] [])) (fun _ kk' => castTop (ef_eq_other m a bb) kk') ?_
  refine go_of (B := (s₁.setTop (mkF m 1 #[.val (.ref a), .val (.ref bb), .unset] [(.ref bb)]))) (fun _ kk => XS.aloadN X0.here hx rfl (hb hby d9_0) rfl rfl kk) ?_
  obtain ⟨T1, X1, e1, st1⟩ := instNo X0 hx hZ hown (hw _ (List.mem_of_getElem? (i := 58) rfl)) e0 E (own_nsno (hw _ (List.mem_of_getElem? (i := 86) rfl)) (hw _ (List.mem_of_getElem? (i := 1) rfl)) (NS.step (hw _ (List.mem_of_getElem? (i := 86) rfl)) (own_nsroot (hw _ (List.mem_of_getElem? (i := 87) rfl)) (hw _ (List.mem_of_getElem? (i := 1) rfl)) (by decide)) (by decide)) (by decide)) (g := (mkF m 1 #[.val (.ref a), .val (.ref bb), .unset] [(.ref bb)])) rfl rfl (hb hby d9_1)
  refine go_of (B := (T1.setTop (mkF m 4 #[.val (.ref a), .val (.ref bb), .unset] [(.int (0 : Int32))]))) (st1) ?_
  refine go_of (B := (T1.setTop (mkF m 58 #[.val (.ref a), .val (.ref bb), .unset] []))) (fun _ kk => XS.ifYes X1.here hx rfl (pc0 := 4) (pc' := 58) rfl (hb hby d9_4) rfl ((if0 _ _).trans (teq (by decide : (0 : Int32) = (0 : Int32))).1) (by decide) (by decide) kk) ?_
  refine go_of (B := (T1.setTop (mkF m 59 #[.val (.ref a), .val (.ref bb), .unset] [(.int (0 : Int32))]))) (fun _ kk => XS.iconst X1.here hx rfl (hb hby d9_58) kk) ?_
  refine go_end X1 (v := some (.int (nar .boolean (0 : Int32)))) (fun h => by rw [Bd.returns] at h; cases h) Bd.notSynchronized (by decide) (by decide) (Q := (Q_eq_other Z a bb h0 n0)) ?_ (fun fs hr => retN X1 hx (t := .boolean) Bd.returns (by simp) (hb hby d9_59) hr)
  show (fun (v : Option Value) (h : Heap) (L : List Loc) => v = some (.int 0) ∧ Fr n0 L ∧ h = h0) (some (.int (nar .boolean (0 : Int32)))) T1.heap _
  rw [e1]
  exact ⟨rfl, N0, rfl⟩
theorem d9_7 : decode prog_32_method_5_code 7 = .ok (.aload_n 1, 1) := by decide +kernel
theorem d9_8 : decode prog_32_method_5_code 8 = .ok (.checkcast 18, 3) := by decide +kernel
theorem d9_11 : decode prog_32_method_5_code 11 = .ok (.astore_n 2, 1) := by decide +kernel
theorem d9_12 : decode prog_32_method_5_code 12 = .ok (.aload_n 0, 1) := by decide +kernel
theorem d9_13 : decode prog_32_method_5_code 13 = .ok (.getfield 17, 3) := by decide +kernel
theorem d9_16 : decode prog_32_method_5_code 16 = .ok (.aload_n 2, 1) := by decide +kernel
theorem d9_17 : decode prog_32_method_5_code 17 = .ok (.getfield 17, 3) := by decide +kernel
theorem d9_20 : decode prog_32_method_5_code 20 = .ok (.invokevirtual 30, 3) := by decide +kernel
theorem pd__Ljava_lang_Object__Z : parseMethodDescriptor "(Ljava/lang/Object;)Z" = some ⟨[(.object "java/lang/Object")], some .boolean⟩ := by decide +kernel
theorem d9_23 : decode prog_32_method_5_code 23 = .ok (.ifCond .eq 35, 3) := by decide +kernel
def Q_eq_same (Z : State) (a : Addr) (bb : Addr) (p1 : Addr) (p2 : Addr) (p3 : Addr) (q1 : Addr) (q2 : Addr) (q3 : Addr) (c1 : List Int32) (c2 : List Int32) (c3 : List Int32) (d1 : List Int32) (d2 : List Int32) (d3 : List Int32) (gC : Int32) (h0 : Heap) (n0 : Nat) (v : Option Value) (h : Heap) (L : List Loc) : Prop := v = some (.int (own_eq3 c1 d1 c2 d2 c3 d3)) ∧ Fr n0 L ∧ h = h0
theorem d9_26 : decode prog_32_method_5_code 26 = .ok (.aload_n 0, 1) := by decide +kernel
theorem d9_27 : decode prog_32_method_5_code 27 = .ok (.getfield 24, 3) := by decide +kernel
theorem d9_30 : decode prog_32_method_5_code 30 = .ok (.aload_n 2, 1) := by decide +kernel
theorem d9_31 : decode prog_32_method_5_code 31 = .ok (.getfield 24, 3) := by decide +kernel
theorem d9_34 : decode prog_32_method_5_code 34 = .ok (.invokevirtual 30, 3) := by decide +kernel
theorem d9_37 : decode prog_32_method_5_code 37 = .ok (.ifCond .eq 21, 3) := by decide +kernel
theorem d9_40 : decode prog_32_method_5_code 40 = .ok (.aload_n 0, 1) := by decide +kernel
theorem d9_41 : decode prog_32_method_5_code 41 = .ok (.getfield 28, 3) := by decide +kernel
theorem d9_44 : decode prog_32_method_5_code 44 = .ok (.aload_n 2, 1) := by decide +kernel
theorem d9_45 : decode prog_32_method_5_code 45 = .ok (.getfield 28, 3) := by decide +kernel
theorem d9_48 : decode prog_32_method_5_code 48 = .ok (.invokevirtual 30, 3) := by decide +kernel
theorem d9_51 : decode prog_32_method_5_code 51 = .ok (.ifCond .eq 7, 3) := by decide +kernel
theorem d9_54 : decode prog_32_method_5_code 54 = .ok (.iconst 1, 1) := by decide +kernel
theorem d9_55 : decode prog_32_method_5_code 55 = .ok (.goto 4, 3) := by decide +kernel
theorem ef_eq_same (m : MethodId) (a : Addr) (bb : Addr)  : entryFrame m #[(.ref a), (.ref bb)] 3 = mkF m 0 #[.val (.ref a), .val (.ref bb), .unset] [] := by first | (simp [entryFrame, mkF, argsToLocals, Value.category]; done) | rfl
set_option maxRecDepth 65536 in
set_option maxHeartbeats 40000000 in
theorem eq_same (l : Launch) (Z : State) (a0 : Array Value) (hw : ∀ d ∈ tables_1, d.before a0 Z = true) (ws : List Jvm.Cond) (a : Addr) (bb : Addr) (p1 : Addr) (p2 : Addr) (p3 : Addr) (q1 : Addr) (q2 : Addr) (q3 : Addr) (c1 : List Int32) (c2 : List Int32) (c3 : List Int32) (d1 : List Int32) (d2 : List Int32) (d3 : List Int32) (gC : Int32) (h0 : Heap) (n0 : Nat) (Z0 : n0 ≤ h0.size) (O : Old Z n0 h0) (SC : Sta Z Z.heap "java/lang/String" "COMPACT_STRINGS" "Z" (.int gC)) (hgC : ¬ gC = (0 : Int32)) (A : OT Z h0 a p1 p2 p3) (B : OT Z h0 bb q1 q2 q3) (SA1 : StrL Z h0 p1 c1) (SA2 : StrL Z h0 p2 c2) (SA3 : StrL Z h0 p3 c3) (SB1 : StrL Z h0 q1 d1) (SB2 : StrL Z h0 q2 d2) (SB3 : StrL Z h0 q3 d3) (hh1 : p1 = q1 → c1 = d1) (hh2 : p2 = q2 → c2 = d2) (hh3 : p3 = q3 → c3 = d3) :
    MetFree l (⟨"com/example/sure_paths/surepaths/model/ClassToExistential", "equals", "(Ljava/lang/Object;)Z"⟩ : MethodName) (head1 (Jvm.Cond.code (⟨"com/example/sure_paths/surepaths/model/ClassToExistential", "equals", "(Ljava/lang/Object;)Z"⟩ : MethodName) prog_32_method_5_code 3 (some .boolean) :: ws) ({ frames := 2, cells := 0, slots := 0, locals := 28 } : Room)) (fun aa' U1' => aa' = #[(.ref a), (.ref bb)] ∧ Z.Warmed39 U1'.vm ∧ U1'.heap = h0) (fun _ _ _ _ _ => True) (fun _ U1' oo' U2' => ∃ vv' LL', oo' = .returned vv' ∧ (Q_eq_same Z a bb p1 p2 p3 q1 q2 q3 c1 c2 c3 d1 d2 d3 gC h0 n0) vv' U2'.heap LL' ∧ FrameEnd U1' oo' U2' LL' ({ frames := 2, cells := 0, slots := 0, locals := 28 } : Room).cells ({ frames := 2, cells := 0, slots := 0, locals := 28 } : Room).slots) := by
  refine MetFree.of_bodySF (plainFor_of_name pn_com_example_sure_paths_surepaths_model_ClassToExistential) hisR ?_
  intro p e s m args below meth c s₁ Bd hml0 hP hK
  obtain ⟨rfl, hZ, hh⟩ := hP
  have hx := Bd.exec
  have hby := Bd.bytes
  have hml : c.maxLocals = 3 := hml0
  have hown : s.vm.findClass "com/example/sure_paths/surepaths/model/ClassToExistential" = some m.cls := findClass_of_methodNamed Bd.named
  have hnm := (name_of_methodNamed Bd.named Bd.method).1
  have X0 : Stand p l e ({ frames := 2, cells := 0, slots := 0, locals := 28 } : Room) s m #[(.ref a), (.ref bb)] below meth c s₁ [] 0 0 := Stand.of_body Bd
  have e0 : s₁.heap = h0 := by rw [← hh, Bd.state]; rfl
  have N0 := Fr.nil n0
  refine go_of (A := s₁.setTop (entryFrame m #[(.ref a), (.ref bb)] 3)) (B := s₁.setTop (mkF m 0 #[.val (.ref a), .val (.ref bb), .unset] [])) (fun _ kk' => castTop (ef_eq_same m a bb) kk') ?_
  refine go_of (B := (s₁.setTop (mkF m 1 #[.val (.ref a), .val (.ref bb), .unset] [(.ref bb)]))) (fun _ kk => XS.aloadN X0.here hx rfl (hb hby d9_0) rfl rfl kk) ?_
  obtain ⟨T1, X1, e1, st1⟩ := instY X0 hx hZ hown (hw _ (List.mem_of_getElem? (i := 58) rfl)) e0 (Ins.self B.1) (g := (mkF m 1 #[.val (.ref a), .val (.ref bb), .unset] [(.ref bb)])) rfl rfl (hb hby d9_1)
  refine go_of (B := (T1.setTop (mkF m 4 #[.val (.ref a), .val (.ref bb), .unset] [(.int (1 : Int32))]))) (st1) ?_
  refine go_of (B := (T1.setTop (mkF m 7 #[.val (.ref a), .val (.ref bb), .unset] []))) (fun _ kk => XS.ifNo X1.here hx rfl (hb hby d9_4) rfl ((if0 _ _).trans (feq (by decide : ¬ ((1 : Int32) = (0 : Int32)))).1) kk) ?_
  refine go_of (B := (T1.setTop (mkF m 8 #[.val (.ref a), .val (.ref bb), .unset] [(.ref bb)]))) (fun _ kk => XS.aloadN X1.here hx rfl (hb hby d9_7) rfl rfl kk) ?_
  obtain ⟨T2, X2, e2, st2⟩ := castY X1 hx hZ hown (hw _ (List.mem_of_getElem? (i := 58) rfl)) e1 (Ins.self B.1) (g := (mkF m 8 #[.val (.ref a), .val (.ref bb), .unset] [(.ref bb)])) rfl rfl (hb hby d9_8)
  refine go_of (B := (T2.setTop (mkF m 11 #[.val (.ref a), .val (.ref bb), .unset] [(.ref bb)]))) (st2) ?_
  refine go_of (B := (T2.setTop (mkF m 12 #[.val (.ref a), .val (.ref bb), .val (.ref bb)] []))) (fun _ kk => XS.astoreN X2.here hx rfl (hb hby d9_11) rfl rfl rfl kk) ?_
  refine go_of (B := (T2.setTop (mkF m 13 #[.val (.ref a), .val (.ref bb), .val (.ref bb)] [(.ref a)]))) (fun _ kk => XS.aloadN X2.here hx rfl (hb hby d9_12) rfl rfl kk) ?_
  obtain ⟨T3, X3, e3, st3⟩ := getF X2 hx hZ hown (host := "") (Or.inl (hw _ (List.mem_of_getElem? (i := 42) rfl))) Via.refl e2 A.2.1 (g := (mkF m 13 #[.val (.ref a), .val (.ref bb), .val (.ref bb)] [(.ref a)])) rfl rfl (hb hby d9_13)
  refine go_of (B := (T3.setTop (mkF m 16 #[.val (.ref a), .val (.ref bb), .val (.ref bb)] [(.ref p1)]))) (st3) ?_
  refine go_of (B := (T3.setTop (mkF m 17 #[.val (.ref a), .val (.ref bb), .val (.ref bb)] [(.ref bb), (.ref p1)]))) (fun _ kk => XS.aloadN X3.here hx rfl (hb hby d9_16) rfl rfl kk) ?_
  obtain ⟨T4, X4, e4, st4⟩ := getF X3 hx hZ hown (host := "") (Or.inl (hw _ (List.mem_of_getElem? (i := 42) rfl))) Via.refl e3 B.2.1 (g := (mkF m 17 #[.val (.ref a), .val (.ref bb), .val (.ref bb)] [(.ref bb), (.ref p1)])) rfl rfl (hb hby d9_17)
  refine go_of (B := (T4.setTop (mkF m 20 #[.val (.ref a), .val (.ref bb), .val (.ref bb)] [(.ref q1), (.ref p1)]))) (st4) ?_
  obtain ⟨cq5, kq5, q5a, q5b, q5c⟩ := isOf hZ e4 SA1.exa
  obtain ⟨_, _, ⟨T5, L5, k5, n5⟩, -, X5, ⟨Lc5, hQ5, l5, y5, z5⟩, st5⟩ := X4.virtualBack hx (y := (⟨"java/lang/String", "equals", "(Ljava/lang/Object;)Z"⟩ : MethodName)) (z := (⟨"java/lang/String", "equals", "(Ljava/lang/Object;)Z"⟩ : MethodName)) hown (mvT hZ (hw _ (List.mem_of_getElem? (i := 60) rfl))) (mvT hZ (hw _ (List.mem_of_getElem? (i := 61) rfl))) (notFace_of_selects (args := #[]) (mvT hZ (hw _ (List.mem_of_getElem? (i := 63) rfl)))) (mvT hZ (hw _ (List.mem_of_getElem? (i := 63) rfl))) (mvT hZ (hw _ (List.mem_of_getElem? (i := 62) rfl))) (by decide) (backOf (W := 0) (str_eq l Z a0 hw [] p1 q1 c1 d1 gC h0 n0 Z0 O SC hgC SA1 SB1 hh1) hZ (hw _ (List.mem_of_getElem? (i := 64) rfl)) (hw _ (List.mem_of_getElem? (i := 12) rfl)) (by decide) (by decide)) q5a q5c (g := (mkF m 20 #[.val (.ref a), .val (.ref bb), .val (.ref bb)] [(.ref q1), (.ref p1)])) rfl (by rw [hml]; rfl) (Steps.refl _) (argsL := [(.ref q1)]) (rest := []) (lenOf pd__Ljava_lang_Object__Z rfl) rfl (by show 2 * 0 + _ ≤ _; exact Nat.le_of_eq rfl) (hb hby d9_20) (fun _ _ => ⟨rfl, e4, (by decide : 0 + 0 ≤ _), (by decide : 0 + 0 ≤ _)⟩)
  dsimp only [Pt.U, Pt.locs, Pt.cells, Pt.slots] at X5 l5 y5 z5 st5 hQ5
  subst l5 y5 z5
  obtain ⟨rfl, N5q, e5⟩ := hQ5
  have N5 := Fr.app N0 N5q
  refine go_tr (B := (T5.setTop (mkF m 23 #[.val (.ref a), .val (.ref bb), .val (.ref bb)] [(.int (own_eqv c1 d1))]))) (st5) ?_
  by_cases hc6 : (own_eqv c1 d1) = (0 : Int32)
  · refine go_of (B := (T5.setTop (mkF m 58 #[.val (.ref a), .val (.ref bb), .val (.ref bb)] []))) (fun _ kk => XS.ifYes X5.here hx rfl (pc0 := 23) (pc' := 58) rfl (hb hby d9_23) rfl ((if0 _ _).trans (teq hc6).1) (by decide) (by decide) kk) ?_
    refine go_of (B := (T5.setTop (mkF m 59 #[.val (.ref a), .val (.ref bb), .val (.ref bb)] [(.int (0 : Int32))]))) (fun _ kk => XS.iconst X5.here hx rfl (hb hby d9_58) kk) ?_
    refine go_end X5 (v := some (.int (nar .boolean (0 : Int32)))) (fun h => by rw [Bd.returns] at h; cases h) Bd.notSynchronized (by decide) (by decide) (Q := (Q_eq_same Z a bb p1 p2 p3 q1 q2 q3 c1 c2 c3 d1 d2 d3 gC h0 n0)) ?_ (fun fs hr => retN X5 hx (t := .boolean) Bd.returns (by simp) (hb hby d9_59) hr)
    show (fun (v : Option Value) (h : Heap) (L : List Loc) => v = some (.int (own_eq3 c1 d1 c2 d2 c3 d3)) ∧ Fr n0 L ∧ h = h0) (some (.int (nar .boolean (0 : Int32)))) T5.heap _
    rw [e5]
    refine ⟨?_, N5, rfl⟩
    rw [own_eqv0] at hc6
    simp_all [own_eq3, nar]
  · refine go_of (B := (T5.setTop (mkF m 26 #[.val (.ref a), .val (.ref bb), .val (.ref bb)] []))) (fun _ kk => XS.ifNo X5.here hx rfl (hb hby d9_23) rfl ((if0 _ _).trans (feq hc6).1) kk) ?_
    refine go_of (B := (T5.setTop (mkF m 27 #[.val (.ref a), .val (.ref bb), .val (.ref bb)] [(.ref a)]))) (fun _ kk => XS.aloadN X5.here hx rfl (hb hby d9_26) rfl rfl kk) ?_
    obtain ⟨T7, X7, e7, st7⟩ := getF X5 hx hZ hown (host := "") (Or.inl (hw _ (List.mem_of_getElem? (i := 45) rfl))) Via.refl e5 A.2.2.1 (g := (mkF m 27 #[.val (.ref a), .val (.ref bb), .val (.ref bb)] [(.ref a)])) rfl rfl (hb hby d9_27)
    refine go_of (B := (T7.setTop (mkF m 30 #[.val (.ref a), .val (.ref bb), .val (.ref bb)] [(.ref p2)]))) (st7) ?_
    refine go_of (B := (T7.setTop (mkF m 31 #[.val (.ref a), .val (.ref bb), .val (.ref bb)] [(.ref bb), (.ref p2)]))) (fun _ kk => XS.aloadN X7.here hx rfl (hb hby d9_30) rfl rfl kk) ?_
    obtain ⟨T8, X8, e8, st8⟩ := getF X7 hx hZ hown (host := "") (Or.inl (hw _ (List.mem_of_getElem? (i := 45) rfl))) Via.refl e7 B.2.2.1 (g := (mkF m 31 #[.val (.ref a), .val (.ref bb), .val (.ref bb)] [(.ref bb), (.ref p2)])) rfl rfl (hb hby d9_31)
    refine go_of (B := (T8.setTop (mkF m 34 #[.val (.ref a), .val (.ref bb), .val (.ref bb)] [(.ref q2), (.ref p2)]))) (st8) ?_
    obtain ⟨cq9, kq9, q9a, q9b, q9c⟩ := isOf hZ e8 SA2.exa
    obtain ⟨_, _, ⟨T9, L9, k9, n9⟩, -, X9, ⟨Lc9, hQ9, l9, y9, z9⟩, st9⟩ := X8.virtualBack hx (y := (⟨"java/lang/String", "equals", "(Ljava/lang/Object;)Z"⟩ : MethodName)) (z := (⟨"java/lang/String", "equals", "(Ljava/lang/Object;)Z"⟩ : MethodName)) hown (mvT hZ (hw _ (List.mem_of_getElem? (i := 60) rfl))) (mvT hZ (hw _ (List.mem_of_getElem? (i := 61) rfl))) (notFace_of_selects (args := #[]) (mvT hZ (hw _ (List.mem_of_getElem? (i := 63) rfl)))) (mvT hZ (hw _ (List.mem_of_getElem? (i := 63) rfl))) (mvT hZ (hw _ (List.mem_of_getElem? (i := 62) rfl))) (by decide) (backOf (W := 0) (str_eq l Z a0 hw [] p2 q2 c2 d2 gC h0 n0 Z0 O SC hgC SA2 SB2 hh2) hZ (hw _ (List.mem_of_getElem? (i := 64) rfl)) (hw _ (List.mem_of_getElem? (i := 12) rfl)) (by decide) (by decide)) q9a q9c (g := (mkF m 34 #[.val (.ref a), .val (.ref bb), .val (.ref bb)] [(.ref q2), (.ref p2)])) rfl (by rw [hml]; rfl) (Steps.refl _) (argsL := [(.ref q2)]) (rest := []) (lenOf pd__Ljava_lang_Object__Z rfl) rfl (by show 2 * 0 + _ ≤ _; exact Nat.le_of_eq rfl) (hb hby d9_34) (fun _ _ => ⟨rfl, e8, (by decide : 0 + 0 ≤ _), (by decide : 0 + 0 ≤ _)⟩)
    dsimp only [Pt.U, Pt.locs, Pt.cells, Pt.slots] at X9 l9 y9 z9 st9 hQ9
    subst l9 y9 z9
    obtain ⟨rfl, N9q, e9⟩ := hQ9
    have N9 := Fr.app N5 N9q
    refine go_tr (B := (T9.setTop (mkF m 37 #[.val (.ref a), .val (.ref bb), .val (.ref bb)] [(.int (own_eqv c2 d2))]))) (st9) ?_
    by_cases hc10 : (own_eqv c2 d2) = (0 : Int32)
    · refine go_of (B := (T9.setTop (mkF m 58 #[.val (.ref a), .val (.ref bb), .val (.ref bb)] []))) (fun _ kk => XS.ifYes X9.here hx rfl (pc0 := 37) (pc' := 58) rfl (hb hby d9_37) rfl ((if0 _ _).trans (teq hc10).1) (by decide) (by decide) kk) ?_
      refine go_of (B := (T9.setTop (mkF m 59 #[.val (.ref a), .val (.ref bb), .val (.ref bb)] [(.int (0 : Int32))]))) (fun _ kk => XS.iconst X9.here hx rfl (hb hby d9_58) kk) ?_
      refine go_end X9 (v := some (.int (nar .boolean (0 : Int32)))) (fun h => by rw [Bd.returns] at h; cases h) Bd.notSynchronized (by decide) (by decide) (Q := (Q_eq_same Z a bb p1 p2 p3 q1 q2 q3 c1 c2 c3 d1 d2 d3 gC h0 n0)) ?_ (fun fs hr => retN X9 hx (t := .boolean) Bd.returns (by simp) (hb hby d9_59) hr)
      show (fun (v : Option Value) (h : Heap) (L : List Loc) => v = some (.int (own_eq3 c1 d1 c2 d2 c3 d3)) ∧ Fr n0 L ∧ h = h0) (some (.int (nar .boolean (0 : Int32)))) T9.heap _
      rw [e9]
      refine ⟨?_, N9, rfl⟩
      rw [own_eqv0] at hc6
      rw [own_eqv0] at hc10
      simp_all [own_eq3, nar]
    · refine go_of (B := (T9.setTop (mkF m 40 #[.val (.ref a), .val (.ref bb), .val (.ref bb)] []))) (fun _ kk => XS.ifNo X9.here hx rfl (hb hby d9_37) rfl ((if0 _ _).trans (feq hc10).1) kk) ?_
      refine go_of (B := (T9.setTop (mkF m 41 #[.val (.ref a), .val (.ref bb), .val (.ref bb)] [(.ref a)]))) (fun _ kk => XS.aloadN X9.here hx rfl (hb hby d9_40) rfl rfl kk) ?_
      obtain ⟨T11, X11, e11, st11⟩ := getF X9 hx hZ hown (host := "") (Or.inl (hw _ (List.mem_of_getElem? (i := 48) rfl))) Via.refl e9 A.2.2.2 (g := (mkF m 41 #[.val (.ref a), .val (.ref bb), .val (.ref bb)] [(.ref a)])) rfl rfl (hb hby d9_41)
      refine go_of (B := (T11.setTop (mkF m 44 #[.val (.ref a), .val (.ref bb), .val (.ref bb)] [(.ref p3)]))) (st11) ?_
      refine go_of (B := (T11.setTop (mkF m 45 #[.val (.ref a), .val (.ref bb), .val (.ref bb)] [(.ref bb), (.ref p3)]))) (fun _ kk => XS.aloadN X11.here hx rfl (hb hby d9_44) rfl rfl kk) ?_
      obtain ⟨T12, X12, e12, st12⟩ := getF X11 hx hZ hown (host := "") (Or.inl (hw _ (List.mem_of_getElem? (i := 48) rfl))) Via.refl e11 B.2.2.2 (g := (mkF m 45 #[.val (.ref a), .val (.ref bb), .val (.ref bb)] [(.ref bb), (.ref p3)])) rfl rfl (hb hby d9_45)
      refine go_of (B := (T12.setTop (mkF m 48 #[.val (.ref a), .val (.ref bb), .val (.ref bb)] [(.ref q3), (.ref p3)]))) (st12) ?_
      obtain ⟨cq13, kq13, q13a, q13b, q13c⟩ := isOf hZ e12 SA3.exa
      obtain ⟨_, _, ⟨T13, L13, k13, n13⟩, -, X13, ⟨Lc13, hQ13, l13, y13, z13⟩, st13⟩ := X12.virtualBack hx (y := (⟨"java/lang/String", "equals", "(Ljava/lang/Object;)Z"⟩ : MethodName)) (z := (⟨"java/lang/String", "equals", "(Ljava/lang/Object;)Z"⟩ : MethodName)) hown (mvT hZ (hw _ (List.mem_of_getElem? (i := 60) rfl))) (mvT hZ (hw _ (List.mem_of_getElem? (i := 61) rfl))) (notFace_of_selects (args := #[]) (mvT hZ (hw _ (List.mem_of_getElem? (i := 63) rfl)))) (mvT hZ (hw _ (List.mem_of_getElem? (i := 63) rfl))) (mvT hZ (hw _ (List.mem_of_getElem? (i := 62) rfl))) (by decide) (backOf (W := 0) (str_eq l Z a0 hw [] p3 q3 c3 d3 gC h0 n0 Z0 O SC hgC SA3 SB3 hh3) hZ (hw _ (List.mem_of_getElem? (i := 64) rfl)) (hw _ (List.mem_of_getElem? (i := 12) rfl)) (by decide) (by decide)) q13a q13c (g := (mkF m 48 #[.val (.ref a), .val (.ref bb), .val (.ref bb)] [(.ref q3), (.ref p3)])) rfl (by rw [hml]; rfl) (Steps.refl _) (argsL := [(.ref q3)]) (rest := []) (lenOf pd__Ljava_lang_Object__Z rfl) rfl (by show 2 * 0 + _ ≤ _; exact Nat.le_of_eq rfl) (hb hby d9_48) (fun _ _ => ⟨rfl, e12, (by decide : 0 + 0 ≤ _), (by decide : 0 + 0 ≤ _)⟩)
      dsimp only [Pt.U, Pt.locs, Pt.cells, Pt.slots] at X13 l13 y13 z13 st13 hQ13
      subst l13 y13 z13
      obtain ⟨rfl, N13q, e13⟩ := hQ13
      have N13 := Fr.app N9 N13q
      refine go_tr (B := (T13.setTop (mkF m 51 #[.val (.ref a), .val (.ref bb), .val (.ref bb)] [(.int (own_eqv c3 d3))]))) (st13) ?_
      by_cases hc14 : (own_eqv c3 d3) = (0 : Int32)
      · refine go_of (B := (T13.setTop (mkF m 58 #[.val (.ref a), .val (.ref bb), .val (.ref bb)] []))) (fun _ kk => XS.ifYes X13.here hx rfl (pc0 := 51) (pc' := 58) rfl (hb hby d9_51) rfl ((if0 _ _).trans (teq hc14).1) (by decide) (by decide) kk) ?_
        refine go_of (B := (T13.setTop (mkF m 59 #[.val (.ref a), .val (.ref bb), .val (.ref bb)] [(.int (0 : Int32))]))) (fun _ kk => XS.iconst X13.here hx rfl (hb hby d9_58) kk) ?_
        refine go_end X13 (v := some (.int (nar .boolean (0 : Int32)))) (fun h => by rw [Bd.returns] at h; cases h) Bd.notSynchronized (by decide) (by decide) (Q := (Q_eq_same Z a bb p1 p2 p3 q1 q2 q3 c1 c2 c3 d1 d2 d3 gC h0 n0)) ?_ (fun fs hr => retN X13 hx (t := .boolean) Bd.returns (by simp) (hb hby d9_59) hr)
        show (fun (v : Option Value) (h : Heap) (L : List Loc) => v = some (.int (own_eq3 c1 d1 c2 d2 c3 d3)) ∧ Fr n0 L ∧ h = h0) (some (.int (nar .boolean (0 : Int32)))) T13.heap _
        rw [e13]
        refine ⟨?_, N13, rfl⟩
        rw [own_eqv0] at hc6
        rw [own_eqv0] at hc10
        rw [own_eqv0] at hc14
        simp_all [own_eq3, nar]
      · refine go_of (B := (T13.setTop (mkF m 54 #[.val (.ref a), .val (.ref bb), .val (.ref bb)] []))) (fun _ kk => XS.ifNo X13.here hx rfl (hb hby d9_51) rfl ((if0 _ _).trans (feq hc14).1) kk) ?_
        refine go_of (B := (T13.setTop (mkF m 55 #[.val (.ref a), .val (.ref bb), .val (.ref bb)] [(.int (1 : Int32))]))) (fun _ kk => XS.iconst X13.here hx rfl (hb hby d9_54) kk) ?_
        refine go_of (B := (T13.setTop (mkF m 59 #[.val (.ref a), .val (.ref bb), .val (.ref bb)] [(.int (1 : Int32))]))) (fun _ kk => XS.goto X13.here hx rfl (pc0 := 55) (pc' := 59) rfl (hb hby d9_55) (by decide) (by decide) kk) ?_
        refine go_end X13 (v := some (.int (nar .boolean (1 : Int32)))) (fun h => by rw [Bd.returns] at h; cases h) Bd.notSynchronized (by decide) (by decide) (Q := (Q_eq_same Z a bb p1 p2 p3 q1 q2 q3 c1 c2 c3 d1 d2 d3 gC h0 n0)) ?_ (fun fs hr => retN X13 hx (t := .boolean) Bd.returns (by simp) (hb hby d9_59) hr)
        show (fun (v : Option Value) (h : Heap) (L : List Loc) => v = some (.int (own_eq3 c1 d1 c2 d2 c3 d3)) ∧ Fr n0 L ∧ h = h0) (some (.int (nar .boolean (1 : Int32)))) T13.heap _
        rw [e13]
        refine ⟨?_, N13, rfl⟩
        rw [own_eqv0] at hc6
        rw [own_eqv0] at hc10
        rw [own_eqv0] at hc14
        simp_all [own_eq3, nar]
theorem pd__I_Ljava_lang_String_ : parseMethodDescriptor "(I)Ljava/lang/String;" = some ⟨[.int], some (.object "java/lang/String")⟩ := by decide +kernel
theorem pd__Ljava_lang_String_Ljava_lang_String_Ljava_lang_String__V : parseMethodDescriptor "(Ljava/lang/String;Ljava/lang/String;Ljava/lang/String;)V" = some ⟨[(.object "java/lang/String"), (.object "java/lang/String"), (.object "java/lang/String")], none⟩ := by decide +kernel
def Q_rm0 (Z : State) (pa : Int32) (fa : Int32) (sa : Int32) (da : Int32) (ea : Int32) (md : Int32) (gC : Int32) (h0 : Heap) (n0 : Nat) (v : Option Value) (h : Heap) (L : List Loc) : Prop := v = some (.int 1) ∧ Fr n0 L
theorem pd__Ljava_lang_String_Ljava_lang_String__V : parseMethodDescriptor "(Ljava/lang/String;Ljava/lang/String;)V" = some ⟨[(.object "java/lang/String"), (.object "java/lang/String")], none⟩ := by decide +kernel
set_option maxRecDepth 65536 in
set_option maxHeartbeats 40000000 in
theorem lw52 {p : Program} {l : Launch} {e : Env} {s : State} {m : MethodId} {args : Array Value} {below : List Frame} {meth : Method} {c : Code} {Z : State} {a0 : Array Value} {h0 : Heap} {n0 : Nat} (pa : Int32) (fa : Int32) (sa : Int32) (da : Int32) (ea : Int32) (md : Int32) (p2 : Int32) (f2 : Int32) (s2 : Int32) (gC : Int32) {T0 : State} {locs : List Loc}
    (X0 : Stand p l e room_1 s m args below meth c T0 locs 0 0) (hx : p.tables.exec = Jvm.exec) (hZ : Z.Warmed39 s.vm) (hw : ∀ d ∈ tables_1, d.before a0 Z = true) (hby : c.code = code) (hml : c.maxLocals = 13) (hown : s.vm.findClass "com/example/sure_paths/surepaths/model/ClassToExistentialEqualsPinLaw" = some m.cls) (hret : meth.sig.returnType = (some .boolean)) (hlk : meth.locks = false) (e0 : T0.heap = h0) (N0 : Fr n0 locs) (Z0 : n0 ≤ h0.size) (O : Old Z n0 h0) (SC : Sta Z Z.heap "java/lang/String" "COMPACT_STRINGS" "Z" (.int gC)) (hgC : ¬ gC = (0 : Int32)) (hh0 : s.heap = h0) (hCH : CHv Z own_EL s.vm h0) :
    Go p e below (T0.setTop (mkF m 52 #[.val (.int pa), .val (.int fa), .val (.int sa), .val (.int da), .val (.int ea), .val (.int md), .val (.int p2), .val (.int f2), .val (.int s2), .unset, .unset, .unset, .unset] [])) (fun oo' U2' => ∃ vv' LL', oo' = .returned vv' ∧ (Q_rm0 Z pa fa sa da ea md gC h0 n0) vv' U2'.heap LL' ∧ CHr Z own_EL s.vm s.heap U2'.vm U2'.heap ∧ ReturnedEndW s oo' U2' LL' room_1.cells room_1.slots) := by
  have X0 : Stand p l e room_1 (s.setVm s.vm) m args below meth c T0 locs 0 0 := X0
  have hS : s.Since s.vm 0 := (State.WarmedH.refl s).since 0
  have hEL := own_EW hw
  have HC0 := CHr.refl hCH
  refine go_of (B := (T0.setTop (mkF m 54 #[.val (.int pa), .val (.int fa), .val (.int sa), .val (.int da), .val (.int ea), .val (.int md), .val (.int p2), .val (.int f2), .val (.int s2), .unset, .unset, .unset, .unset] [(.int md)]))) (fun _ kk => XS.iload X0.here hx rfl (hb hby at_52) rfl kk) ?_
  refine go_of (B := (T0.setTop (mkF m 55 #[.val (.int pa), .val (.int fa), .val (.int sa), .val (.int da), .val (.int ea), .val (.int md), .val (.int p2), .val (.int f2), .val (.int s2), .unset, .unset, .unset, .unset] [(.int (3 : Int32)), (.int md)]))) (fun _ kk => XS.iconst X0.here hx rfl (hb hby at_54) kk) ?_
  refine go_of (B := (T0.setTop (mkF m 56 #[.val (.int pa), .val (.int fa), .val (.int sa), .val (.int da), .val (.int ea), .val (.int md), .val (.int p2), .val (.int f2), .val (.int s2), .unset, .unset, .unset, .unset] [(.int ((md.toUInt32 >>> ((3 : Int32) &&& 31).toUInt32).toInt32))]))) (fun _ kk => XS.iushr X0.here hx rfl (hb hby at_55) rfl kk) ?_
  refine go_of (B := (T0.setTop (mkF m 57 #[.val (.int pa), .val (.int fa), .val (.int sa), .val (.int da), .val (.int ea), .val (.int md), .val (.int p2), .val (.int f2), .val (.int s2), .unset, .unset, .unset, .unset] [(.int (3 : Int32)), (.int ((md.toUInt32 >>> ((3 : Int32) &&& 31).toUInt32).toInt32))]))) (fun _ kk => XS.iconst X0.here hx rfl (hb hby at_56) kk) ?_
  refine go_of (B := (T0.setTop (mkF m 58 #[.val (.int pa), .val (.int fa), .val (.int sa), .val (.int da), .val (.int ea), .val (.int md), .val (.int p2), .val (.int f2), .val (.int s2), .unset, .unset, .unset, .unset] [(.int (((md.toUInt32 >>> ((3 : Int32) &&& 31).toUInt32).toInt32) &&& (3 : Int32)))]))) (fun _ kk => XS.iand X0.here hx rfl (hb hby at_57) rfl kk) ?_
  refine go_of (B := (T0.setTop (mkF m 60 #[.val (.int pa), .val (.int fa), .val (.int sa), .val (.int da), .val (.int ea), .val (.int md), .val (.int p2), .val (.int f2), .val (.int s2), .val (.int (((md.toUInt32 >>> ((3 : Int32) &&& 31).toUInt32).toInt32) &&& (3 : Int32))), .unset, .unset, .unset] []))) (fun _ kk => XS.istore X0.here hx rfl (hb hby at_58) rfl rfl kk) ?_
  generalize hi1 : (((md.toUInt32 >>> ((3 : Int32) &&& 31).toUInt32).toInt32) &&& (3 : Int32)) = i1
  obtain ⟨T2, h2, X2, e2, E2, A2, D2, -, st2⟩ := newO X0 hx hZ hown (hw _ (List.mem_of_getElem? (i := 0) rfl)) (hw _ (List.mem_of_getElem? (i := 1) rfl)) (hw _ (List.mem_of_getElem? (i := 2) rfl)) e0 (g := (mkF m 60 #[.val (.int pa), .val (.int fa), .val (.int sa), .val (.int da), .val (.int ea), .val (.int md), .val (.int p2), .val (.int f2), .val (.int s2), .val (.int i1), .unset, .unset, .unset] [])) rfl (hb hby at_60) (by decide) (by decide)
  obtain ⟨b2, g2⟩ : ∃ z, z = h0.size := ⟨_, rfl⟩
  rw [← g2] at A2 D2 st2
  have hi2 := own_nlt A2.lt
  have sz2 := E2.1
  have HC2 := HC0.trans (CHr.ext E2 HC0.1)
  have F2_subClass : Fld Z h2 b2 "com/example/sure_paths/surepaths/model/ClassToExistential" "subClass" "Ljava/lang/String;" .null := D2 (Or.inr (hw _ (List.mem_of_getElem? (i := 43) rfl))) (ty := (.object "java/lang/String")) (by decide)
  have F2_property : Fld Z h2 b2 "com/example/sure_paths/surepaths/model/ClassToExistential" "property" "Ljava/lang/String;" .null := D2 (Or.inr (hw _ (List.mem_of_getElem? (i := 46) rfl))) (ty := (.object "java/lang/String")) (by decide)
  have F2_filler : Fld Z h2 b2 "com/example/sure_paths/surepaths/model/ClassToExistential" "filler" "Ljava/lang/String;" .null := D2 (Or.inr (hw _ (List.mem_of_getElem? (i := 49) rfl))) (ty := (.object "java/lang/String")) (by decide)
  refine go_of (B := (T2.setTop (mkF m 63 #[.val (.int pa), .val (.int fa), .val (.int sa), .val (.int da), .val (.int ea), .val (.int md), .val (.int p2), .val (.int f2), .val (.int s2), .val (.int i1), .unset, .unset, .unset] [(.ref b2)]))) (st2) ?_
  refine go_of (B := (T2.setTop (mkF m 64 #[.val (.int pa), .val (.int fa), .val (.int sa), .val (.int da), .val (.int ea), .val (.int md), .val (.int p2), .val (.int f2), .val (.int s2), .val (.int i1), .unset, .unset, .unset] [(.ref b2), (.ref b2)]))) (fun _ kk => XS.dup X2.here hx rfl (hb hby at_63) rfl rfl kk) ?_
  refine go_of (B := (T2.setTop (mkF m 65 #[.val (.int pa), .val (.int fa), .val (.int sa), .val (.int da), .val (.int ea), .val (.int md), .val (.int p2), .val (.int f2), .val (.int s2), .val (.int i1), .unset, .unset, .unset] [(.int pa), (.ref b2), (.ref b2)]))) (fun _ kk => XS.iloadN X2.here hx rfl (hb hby at_64) rfl kk) ?_
  have cf_3 := (O.ext E2)
  obtain ⟨_, _, ⟨T4, L4, k4, n4⟩, -, X4', hS4', gr4, ⟨Lc4, hQ4, l4, y4, z4, HR4⟩, st4⟩ := callSS X2 hx (y := (⟨"com/example/sure_paths/surepaths/model/ClassToExistentialEqualsPinLaw", "str", "(I)Ljava/lang/String;"⟩ : MethodName)) hown (mvT hZ (hw _ (List.mem_of_getElem? (i := 3) rfl))) (mvT hZ (hw _ (List.mem_of_getElem? (i := 4) rfl))) (mvT hZ (hw _ (List.mem_of_getElem? (i := 5) rfl))) (mvT hZ (hw _ (List.mem_of_getElem? (i := 6) rfl))) (by decide) (backOfSH (W := 2) (rm1 l Z a0 hw [] pa gC h2 n0 (by first | omega | exact own_ne (by omega) | exact own_le (by omega) | exact own_lt (by omega)) cf_3 SC hgC) hZ (hw _ (List.mem_of_getElem? (i := 6) rfl)) (hw _ (List.mem_of_getElem? (i := 5) rfl)) (by decide) (by decide) hEL HC2.1) (g := (mkF m 65 #[.val (.int pa), .val (.int fa), .val (.int sa), .val (.int da), .val (.int ea), .val (.int md), .val (.int p2), .val (.int f2), .val (.int s2), .val (.int i1), .unset, .unset, .unset] [(.int pa), (.ref b2), (.ref b2)])) rfl (by rw [hml]; rfl) (argsL := [(.int pa)]) (rest := [(.ref b2), (.ref b2)]) (lenOf pd__I_Ljava_lang_String_ rfl) rfl (by show 2 * 0 + _ ≤ _; exact Nat.le_of_eq rfl) (hb hby at_65) (fun _ _ => ⟨rfl, e2, (by decide : 1 + 6 ≤ _), (by decide : 3 + 12 ≤ _)⟩)
  dsimp only [Pt.U, Pt.locs, Pt.cells, Pt.slots] at X4' hS4' gr4 l4 y4 z4 st4 hQ4 HR4
  subst l4 y4 z4
  have X4 : Stand _ _ _ _ (s.setVm T4.vm) _ _ _ _ _ T4 _ _ _ := X4'
  have hS : s.Since T4.vm T4.heap.size := foldS hS (by rw [e2]; omega) hS4' gr4
  have hZ : Z.Warmed39 (s.setVm T4.vm).vm := State.Warmed39.trans (t := s.setVm s.vm) hZ hS4'.1
  have hown : (s.setVm T4.vm).vm.findClass "com/example/sure_paths/surepaths/model/ClassToExistentialEqualsPinLaw" = some m.cls := by rw [show (s.setVm T4.vm).vm = T4.vm from rfl, hS4'.1.alike.findClass]; exact hown
  obtain ⟨b4, rfl, N4q, lo4, K4, S4⟩ := hQ4
  have lo4 := own_nle lo4
  have N4 := Fr.app N0 N4q
  have hi4 := own_nlt (S4.exa.lt)
  have sz4 := K4.1
  have HC4 := HC2.trans HR4
  have cf_5 := (A2.keep K4)
  have od_6 := Ord.of cf_5 (hw _ (List.mem_of_getElem? (i := 1) rfl)) (by decide)
  refine go_tr (B := (T4.setTop (mkF m 68 #[.val (.int pa), .val (.int fa), .val (.int sa), .val (.int da), .val (.int ea), .val (.int md), .val (.int p2), .val (.int f2), .val (.int s2), .val (.int i1), .unset, .unset, .unset] [(.ref b4), (.ref b2), (.ref b2)]))) (st4) ?_
  refine go_of (B := (T4.setTop (mkF m 69 #[.val (.int pa), .val (.int fa), .val (.int sa), .val (.int da), .val (.int ea), .val (.int md), .val (.int p2), .val (.int f2), .val (.int s2), .val (.int i1), .unset, .unset, .unset] [(.int fa), (.ref b4), (.ref b2), (.ref b2)]))) (fun _ kk => XS.iloadN X4.here hx rfl (hb hby at_68) rfl kk) ?_
  have cf_7 := (cf_3.keep K4 all0)
  obtain ⟨_, _, ⟨T8, L8, k8, n8⟩, -, X8', hS8', gr8, ⟨Lc8, hQ8, l8, y8, z8, HR8⟩, st8⟩ := callSS X4 hx (y := (⟨"com/example/sure_paths/surepaths/model/ClassToExistentialEqualsPinLaw", "str", "(I)Ljava/lang/String;"⟩ : MethodName)) hown (mvT hZ (hw _ (List.mem_of_getElem? (i := 3) rfl))) (mvT hZ (hw _ (List.mem_of_getElem? (i := 4) rfl))) (mvT hZ (hw _ (List.mem_of_getElem? (i := 5) rfl))) (mvT hZ (hw _ (List.mem_of_getElem? (i := 6) rfl))) (by decide) (backOfSH (W := 3) (rm1 l Z a0 hw [] fa gC T4.heap n0 (by first | omega | exact own_ne (by omega) | exact own_le (by omega) | exact own_lt (by omega)) cf_7 SC hgC) hZ (hw _ (List.mem_of_getElem? (i := 6) rfl)) (hw _ (List.mem_of_getElem? (i := 5) rfl)) (by decide) (by decide) hEL HC4.1) (g := (mkF m 69 #[.val (.int pa), .val (.int fa), .val (.int sa), .val (.int da), .val (.int ea), .val (.int md), .val (.int p2), .val (.int f2), .val (.int s2), .val (.int i1), .unset, .unset, .unset] [(.int fa), (.ref b4), (.ref b2), (.ref b2)])) rfl (by rw [hml]; rfl) (argsL := [(.int fa)]) (rest := [(.ref b4), (.ref b2), (.ref b2)]) (lenOf pd__I_Ljava_lang_String_ rfl) rfl (by show 2 * 0 + _ ≤ _; exact Nat.le_of_eq rfl) (hb hby at_69) (fun _ _ => ⟨rfl, rfl, (by decide : 7 + 6 ≤ _), (by decide : 15 + 12 ≤ _)⟩)
  dsimp only [Pt.U, Pt.locs, Pt.cells, Pt.slots] at X8' hS8' gr8 l8 y8 z8 st8 hQ8 HR8
  subst l8 y8 z8
  have X8 : Stand _ _ _ _ (s.setVm T8.vm) _ _ _ _ _ T8 _ _ _ := X8'
  have hS : s.Since T8.vm T8.heap.size := foldS hS (by first | omega | exact own_ne (by omega) | exact own_le (by omega) | exact own_lt (by omega)) hS8' gr8
  have hZ : Z.Warmed39 (s.setVm T8.vm).vm := State.Warmed39.trans (t := s.setVm T4.vm) hZ hS8'.1
  have hown : (s.setVm T8.vm).vm.findClass "com/example/sure_paths/surepaths/model/ClassToExistentialEqualsPinLaw" = some m.cls := by rw [show (s.setVm T8.vm).vm = T8.vm from rfl, hS8'.1.alike.findClass]; exact hown
  obtain ⟨b8, rfl, N8q, lo8, K8, S8⟩ := hQ8
  have lo8 := own_nle lo8
  have N8 := Fr.app N4 N8q
  have hi8 := own_nlt (S8.exa.lt)
  have sz8 := K8.1
  have HC8 := HC4.trans HR8
  have cf_9 := (cf_5.keep K8)
  have od_10 := Ord.of cf_9 (hw _ (List.mem_of_getElem? (i := 1) rfl)) (by decide)
  refine go_tr (B := (T8.setTop (mkF m 72 #[.val (.int pa), .val (.int fa), .val (.int sa), .val (.int da), .val (.int ea), .val (.int md), .val (.int p2), .val (.int f2), .val (.int s2), .val (.int i1), .unset, .unset, .unset] [(.ref b8), (.ref b4), (.ref b2), (.ref b2)]))) (st8) ?_
  refine go_of (B := (T8.setTop (mkF m 73 #[.val (.int pa), .val (.int fa), .val (.int sa), .val (.int da), .val (.int ea), .val (.int md), .val (.int p2), .val (.int f2), .val (.int s2), .val (.int i1), .unset, .unset, .unset] [(.int sa), (.ref b8), (.ref b4), (.ref b2), (.ref b2)]))) (fun _ kk => XS.iloadN X8.here hx rfl (hb hby at_72) rfl kk) ?_
  have cf_11 := (cf_7.keep K8 all0)
  obtain ⟨_, _, ⟨T12, L12, k12, n12⟩, -, X12', hS12', gr12, ⟨Lc12, hQ12, l12, y12, z12, HR12⟩, st12⟩ := callSS X8 hx (y := (⟨"com/example/sure_paths/surepaths/model/ClassToExistentialEqualsPinLaw", "str", "(I)Ljava/lang/String;"⟩ : MethodName)) hown (mvT hZ (hw _ (List.mem_of_getElem? (i := 3) rfl))) (mvT hZ (hw _ (List.mem_of_getElem? (i := 4) rfl))) (mvT hZ (hw _ (List.mem_of_getElem? (i := 5) rfl))) (mvT hZ (hw _ (List.mem_of_getElem? (i := 6) rfl))) (by decide) (backOfSH (W := 4) (rm1 l Z a0 hw [] sa gC T8.heap n0 (by first | omega | exact own_ne (by omega) | exact own_le (by omega) | exact own_lt (by omega)) cf_11 SC hgC) hZ (hw _ (List.mem_of_getElem? (i := 6) rfl)) (hw _ (List.mem_of_getElem? (i := 5) rfl)) (by decide) (by decide) hEL HC8.1) (g := (mkF m 73 #[.val (.int pa), .val (.int fa), .val (.int sa), .val (.int da), .val (.int ea), .val (.int md), .val (.int p2), .val (.int f2), .val (.int s2), .val (.int i1), .unset, .unset, .unset] [(.int sa), (.ref b8), (.ref b4), (.ref b2), (.ref b2)])) rfl (by rw [hml]; rfl) (argsL := [(.int sa)]) (rest := [(.ref b8), (.ref b4), (.ref b2), (.ref b2)]) (lenOf pd__I_Ljava_lang_String_ rfl) rfl (by show 2 * 0 + _ ≤ _; exact Nat.le_of_eq rfl) (hb hby at_73) (fun _ _ => ⟨rfl, rfl, (by decide : 13 + 6 ≤ _), (by decide : 27 + 12 ≤ _)⟩)
  dsimp only [Pt.U, Pt.locs, Pt.cells, Pt.slots] at X12' hS12' gr12 l12 y12 z12 st12 hQ12 HR12
  subst l12 y12 z12
  have X12 : Stand _ _ _ _ (s.setVm T12.vm) _ _ _ _ _ T12 _ _ _ := X12'
  have hS : s.Since T12.vm T12.heap.size := foldS hS (by first | omega | exact own_ne (by omega) | exact own_le (by omega) | exact own_lt (by omega)) hS12' gr12
  have hZ : Z.Warmed39 (s.setVm T12.vm).vm := State.Warmed39.trans (t := s.setVm T8.vm) hZ hS12'.1
  have hown : (s.setVm T12.vm).vm.findClass "com/example/sure_paths/surepaths/model/ClassToExistentialEqualsPinLaw" = some m.cls := by rw [show (s.setVm T12.vm).vm = T12.vm from rfl, hS12'.1.alike.findClass]; exact hown
  obtain ⟨b12, rfl, N12q, lo12, K12, S12⟩ := hQ12
  have lo12 := own_nle lo12
  have N12 := Fr.app N8 N12q
  have hi12 := own_nlt (S12.exa.lt)
  have sz12 := K12.1
  have HC12 := HC8.trans HR12
  have cf_13 := (cf_9.keep K12)
  have od_14 := Ord.of cf_13 (hw _ (List.mem_of_getElem? (i := 1) rfl)) (by decide)
  refine go_tr (B := (T12.setTop (mkF m 76 #[.val (.int pa), .val (.int fa), .val (.int sa), .val (.int da), .val (.int ea), .val (.int md), .val (.int p2), .val (.int f2), .val (.int s2), .val (.int i1), .unset, .unset, .unset] [(.ref b12), (.ref b8), (.ref b4), (.ref b2), (.ref b2)]))) (st12) ?_
  have cf_15 := (((F2_subClass.keep K4 nin0).keep K8 nin0).keep K12 nin0)
  have cf_16 := (((F2_property.keep K4 nin0).keep K8 nin0).keep K12 nin0)
  have cf_17 := (((F2_filler.keep K4 nin0).keep K8 nin0).keep K12 nin0)
  have cf_18 := ((S4.exa.keep K8).keep K12)
  have cf_19 := (S8.exa.keep K12)
  obtain ⟨_, _, ⟨T20, L20, k20, n20⟩, -, X20', hS20', gr20, ⟨Lc20, hQ20, l20, y20, z20, HR20⟩, st20⟩ := X12.specialBackS hx (y := (⟨"com/example/sure_paths/surepaths/model/ClassToExistential", "<init>", "(Ljava/lang/String;Ljava/lang/String;Ljava/lang/String;)V"⟩ : MethodName)) rfl hown (mvT hZ (hw _ (List.mem_of_getElem? (i := 32) rfl))) (mvT hZ (hw _ (List.mem_of_getElem? (i := 33) rfl))) (mvT hZ (hw _ (List.mem_of_getElem? (i := 34) rfl))) (by decide) (backOfSH (W := 1) (rm6 l Z a0 hw [] b2 b4 b8 b12 _ _ _ T12.heap n0 (by first | omega | exact own_ne (by omega) | exact own_le (by omega) | exact own_lt (by omega)) cf_13 cf_15 cf_16 cf_17 (by first | omega | exact own_ne (by omega) | exact own_le (by omega) | exact own_lt (by omega)) cf_18 cf_19 S12.exa) hZ (hw _ (List.mem_of_getElem? (i := 34) rfl)) (hw _ (List.mem_of_getElem? (i := 2) rfl)) (by decide) (by decide) hEL HC12.1) (g := (mkF m 76 #[.val (.int pa), .val (.int fa), .val (.int sa), .val (.int da), .val (.int ea), .val (.int md), .val (.int p2), .val (.int f2), .val (.int s2), .val (.int i1), .unset, .unset, .unset] [(.ref b12), (.ref b8), (.ref b4), (.ref b2), (.ref b2)])) rfl (by rw [hml]; rfl) (Steps.refl _) (a := b2) (argsL := [(.ref b4), (.ref b8), (.ref b12)]) (rest := [(.ref b2)]) (lenOf pd__Ljava_lang_String_Ljava_lang_String_Ljava_lang_String__V rfl) rfl (by show 2 * 0 + _ ≤ _; exact Nat.le_of_eq rfl) (hb hby at_76) (fun _ _ => ⟨rfl, rfl, (by decide : 19 + 6 ≤ _), (by decide : 39 + 100 ≤ _)⟩)
  dsimp only [Pt.U, Pt.locs, Pt.cells, Pt.slots] at X20' hS20' gr20 l20 y20 z20 st20 hQ20 HR20
  subst l20 y20 z20
  have X20 : Stand _ _ _ _ (s.setVm T20.vm) _ _ _ _ _ T20 _ _ _ := X20'
  have hS : s.Since T20.vm T20.heap.size := foldS hS (by first | omega | exact own_ne (by omega) | exact own_le (by omega) | exact own_lt (by omega)) hS20' gr20
  have hZ : Z.Warmed39 (s.setVm T20.vm).vm := State.Warmed39.trans (t := s.setVm T12.vm) hZ hS20'.1
  have hown : (s.setVm T20.vm).vm.findClass "com/example/sure_paths/surepaths/model/ClassToExistentialEqualsPinLaw" = some m.cls := by rw [show (s.setVm T20.vm).vm = T20.vm from rfl, hS20'.1.alike.findClass]; exact hown
  obtain ⟨rfl, N20q, K20, A20⟩ := hQ20
  have N20 := Fr.app N12 N20q
  have sz20 := K20.1
  have HC20 := HC12.trans HR20
  refine go_tr (B := (T20.setTop (mkF m 79 #[.val (.int pa), .val (.int fa), .val (.int sa), .val (.int da), .val (.int ea), .val (.int md), .val (.int p2), .val (.int f2), .val (.int s2), .val (.int i1), .unset, .unset, .unset] [(.ref b2)]))) (st20) ?_
  refine go_of (B := (T20.setTop (mkF m 81 #[.val (.int pa), .val (.int fa), .val (.int sa), .val (.int da), .val (.int ea), .val (.int md), .val (.int p2), .val (.int f2), .val (.int s2), .val (.int i1), .val (.ref b2), .unset, .unset] []))) (fun _ kk => XS.astore X20.here hx rfl (hb hby at_79) rfl rfl rfl kk) ?_
  refine go_of (B := (T20.setTop (mkF m 83 #[.val (.int pa), .val (.int fa), .val (.int sa), .val (.int da), .val (.int ea), .val (.int md), .val (.int p2), .val (.int f2), .val (.int s2), .val (.int i1), .val (.ref b2), .unset, .unset] [(.int i1)]))) (fun _ kk => XS.iload X20.here hx rfl (hb hby at_81) rfl kk) ?_
  by_cases hc21 : i1 = (0 : Int32)
  · refine go_of (B := (T20.setTop (mkF m 86 #[.val (.int pa), .val (.int fa), .val (.int sa), .val (.int da), .val (.int ea), .val (.int md), .val (.int p2), .val (.int f2), .val (.int s2), .val (.int i1), .val (.ref b2), .unset, .unset] []))) (fun _ kk => XS.ifNo X20.here hx rfl (hb hby at_83) rfl ((if0 _ _).trans (teq hc21).2) kk) ?_
    obtain ⟨T22, h22, X22, e22, E22, A22, D22, -, st22⟩ := newO X20 hx hZ hown (hw _ (List.mem_of_getElem? (i := 0) rfl)) (hw _ (List.mem_of_getElem? (i := 1) rfl)) (hw _ (List.mem_of_getElem? (i := 2) rfl)) rfl (g := (mkF m 86 #[.val (.int pa), .val (.int fa), .val (.int sa), .val (.int da), .val (.int ea), .val (.int md), .val (.int p2), .val (.int f2), .val (.int s2), .val (.int i1), .val (.ref b2), .unset, .unset] [])) rfl (hb hby at_86) (by decide) (by decide)
    obtain ⟨b22, g22⟩ : ∃ z, z = T20.heap.size := ⟨_, rfl⟩
    rw [← g22] at A22 D22 st22
    have hi22 := own_nlt A22.lt
    have sz22 := E22.1
    have HC22 := HC20.trans (CHr.ext E22 HC20.1)
    have F22_subClass : Fld Z h22 b22 "com/example/sure_paths/surepaths/model/ClassToExistential" "subClass" "Ljava/lang/String;" .null := D22 (Or.inr (hw _ (List.mem_of_getElem? (i := 43) rfl))) (ty := (.object "java/lang/String")) (by decide)
    have F22_property : Fld Z h22 b22 "com/example/sure_paths/surepaths/model/ClassToExistential" "property" "Ljava/lang/String;" .null := D22 (Or.inr (hw _ (List.mem_of_getElem? (i := 46) rfl))) (ty := (.object "java/lang/String")) (by decide)
    have F22_filler : Fld Z h22 b22 "com/example/sure_paths/surepaths/model/ClassToExistential" "filler" "Ljava/lang/String;" .null := D22 (Or.inr (hw _ (List.mem_of_getElem? (i := 49) rfl))) (ty := (.object "java/lang/String")) (by decide)
    refine go_of (B := (T22.setTop (mkF m 89 #[.val (.int pa), .val (.int fa), .val (.int sa), .val (.int da), .val (.int ea), .val (.int md), .val (.int p2), .val (.int f2), .val (.int s2), .val (.int i1), .val (.ref b2), .unset, .unset] [(.ref b22)]))) (st22) ?_
    refine go_of (B := (T22.setTop (mkF m 90 #[.val (.int pa), .val (.int fa), .val (.int sa), .val (.int da), .val (.int ea), .val (.int md), .val (.int p2), .val (.int f2), .val (.int s2), .val (.int i1), .val (.ref b2), .unset, .unset] [(.ref b22), (.ref b22)]))) (fun _ kk => XS.dup X22.here hx rfl (hb hby at_89) rfl rfl kk) ?_
    refine go_of (B := (T22.setTop (mkF m 92 #[.val (.int pa), .val (.int fa), .val (.int sa), .val (.int da), .val (.int ea), .val (.int md), .val (.int p2), .val (.int f2), .val (.int s2), .val (.int i1), .val (.ref b2), .unset, .unset] [(.int p2), (.ref b22), (.ref b22)]))) (fun _ kk => XS.iload X22.here hx rfl (hb hby at_90) rfl kk) ?_
    have cf_23 := (((cf_11.keep K12 all0).keep K20 (allS (by first | omega | exact own_ne (by omega) | exact own_le (by omega) | exact own_lt (by omega)) all0)).ext E22)
    obtain ⟨_, _, ⟨T24, L24, k24, n24⟩, -, X24', hS24', gr24, ⟨Lc24, hQ24, l24, y24, z24, HR24⟩, st24⟩ := callSS X22 hx (y := (⟨"com/example/sure_paths/surepaths/model/ClassToExistentialEqualsPinLaw", "str", "(I)Ljava/lang/String;"⟩ : MethodName)) hown (mvT hZ (hw _ (List.mem_of_getElem? (i := 3) rfl))) (mvT hZ (hw _ (List.mem_of_getElem? (i := 4) rfl))) (mvT hZ (hw _ (List.mem_of_getElem? (i := 5) rfl))) (mvT hZ (hw _ (List.mem_of_getElem? (i := 6) rfl))) (by decide) (backOfSH (W := 2) (rm1 l Z a0 hw [] p2 gC h22 n0 (by first | omega | exact own_ne (by omega) | exact own_le (by omega) | exact own_lt (by omega)) cf_23 SC hgC) hZ (hw _ (List.mem_of_getElem? (i := 6) rfl)) (hw _ (List.mem_of_getElem? (i := 5) rfl)) (by decide) (by decide) hEL HC22.1) (g := (mkF m 92 #[.val (.int pa), .val (.int fa), .val (.int sa), .val (.int da), .val (.int ea), .val (.int md), .val (.int p2), .val (.int f2), .val (.int s2), .val (.int i1), .val (.ref b2), .unset, .unset] [(.int p2), (.ref b22), (.ref b22)])) rfl (by rw [hml]; rfl) (argsL := [(.int p2)]) (rest := [(.ref b22), (.ref b22)]) (lenOf pd__I_Ljava_lang_String_ rfl) rfl (by show 2 * 0 + _ ≤ _; exact Nat.le_of_eq rfl) (hb hby at_92) (fun _ _ => ⟨rfl, e22, (by decide : 26 + 6 ≤ _), (by decide : 142 + 12 ≤ _)⟩)
    dsimp only [Pt.U, Pt.locs, Pt.cells, Pt.slots] at X24' hS24' gr24 l24 y24 z24 st24 hQ24 HR24
    subst l24 y24 z24
    have X24 : Stand _ _ _ _ (s.setVm T24.vm) _ _ _ _ _ T24 _ _ _ := X24'
    have hS : s.Since T24.vm T24.heap.size := foldS hS (by rw [e22]; omega) hS24' gr24
    have hZ : Z.Warmed39 (s.setVm T24.vm).vm := State.Warmed39.trans (t := s.setVm T20.vm) hZ hS24'.1
    have hown : (s.setVm T24.vm).vm.findClass "com/example/sure_paths/surepaths/model/ClassToExistentialEqualsPinLaw" = some m.cls := by rw [show (s.setVm T24.vm).vm = T24.vm from rfl, hS24'.1.alike.findClass]; exact hown
    obtain ⟨b24, rfl, N24q, lo24, K24, S24⟩ := hQ24
    have lo24 := own_nle lo24
    have N24 := Fr.app N20 N24q
    have hi24 := own_nlt (S24.exa.lt)
    have sz24 := K24.1
    have HC24 := HC22.trans HR24
    have cf_25 := ((A20.1.ext E22).keep K24)
    have od_26 := Ord.of cf_25 (hw _ (List.mem_of_getElem? (i := 1) rfl)) (by decide)
    have cf_27 := (A22.keep K24)
    have od_28 := Ord.of cf_27 (hw _ (List.mem_of_getElem? (i := 1) rfl)) (by decide)
    refine go_tr (B := (T24.setTop (mkF m 95 #[.val (.int pa), .val (.int fa), .val (.int sa), .val (.int da), .val (.int ea), .val (.int md), .val (.int p2), .val (.int f2), .val (.int s2), .val (.int i1), .val (.ref b2), .unset, .unset] [(.ref b24), (.ref b22), (.ref b22)]))) (st24) ?_
    refine go_of (B := (T24.setTop (mkF m 97 #[.val (.int pa), .val (.int fa), .val (.int sa), .val (.int da), .val (.int ea), .val (.int md), .val (.int p2), .val (.int f2), .val (.int s2), .val (.int i1), .val (.ref b2), .unset, .unset] [(.int f2), (.ref b24), (.ref b22), (.ref b22)]))) (fun _ kk => XS.iload X24.here hx rfl (hb hby at_95) rfl kk) ?_
    have cf_29 := (cf_23.keep K24 all0)
    obtain ⟨_, _, ⟨T30, L30, k30, n30⟩, -, X30', hS30', gr30, ⟨Lc30, hQ30, l30, y30, z30, HR30⟩, st30⟩ := callSS X24 hx (y := (⟨"com/example/sure_paths/surepaths/model/ClassToExistentialEqualsPinLaw", "str", "(I)Ljava/lang/String;"⟩ : MethodName)) hown (mvT hZ (hw _ (List.mem_of_getElem? (i := 3) rfl))) (mvT hZ (hw _ (List.mem_of_getElem? (i := 4) rfl))) (mvT hZ (hw _ (List.mem_of_getElem? (i := 5) rfl))) (mvT hZ (hw _ (List.mem_of_getElem? (i := 6) rfl))) (by decide) (backOfSH (W := 3) (rm1 l Z a0 hw [] f2 gC T24.heap n0 (by first | omega | exact own_ne (by omega) | exact own_le (by omega) | exact own_lt (by omega)) cf_29 SC hgC) hZ (hw _ (List.mem_of_getElem? (i := 6) rfl)) (hw _ (List.mem_of_getElem? (i := 5) rfl)) (by decide) (by decide) hEL HC24.1) (g := (mkF m 97 #[.val (.int pa), .val (.int fa), .val (.int sa), .val (.int da), .val (.int ea), .val (.int md), .val (.int p2), .val (.int f2), .val (.int s2), .val (.int i1), .val (.ref b2), .unset, .unset] [(.int f2), (.ref b24), (.ref b22), (.ref b22)])) rfl (by rw [hml]; rfl) (argsL := [(.int f2)]) (rest := [(.ref b24), (.ref b22), (.ref b22)]) (lenOf pd__I_Ljava_lang_String_ rfl) rfl (by show 2 * 0 + _ ≤ _; exact Nat.le_of_eq rfl) (hb hby at_97) (fun _ _ => ⟨rfl, rfl, (by decide : 32 + 6 ≤ _), (by decide : 154 + 12 ≤ _)⟩)
    dsimp only [Pt.U, Pt.locs, Pt.cells, Pt.slots] at X30' hS30' gr30 l30 y30 z30 st30 hQ30 HR30
    subst l30 y30 z30
    have X30 : Stand _ _ _ _ (s.setVm T30.vm) _ _ _ _ _ T30 _ _ _ := X30'
    have hS : s.Since T30.vm T30.heap.size := foldS hS (by first | omega | exact own_ne (by omega) | exact own_le (by omega) | exact own_lt (by omega)) hS30' gr30
    have hZ : Z.Warmed39 (s.setVm T30.vm).vm := State.Warmed39.trans (t := s.setVm T24.vm) hZ hS30'.1
    have hown : (s.setVm T30.vm).vm.findClass "com/example/sure_paths/surepaths/model/ClassToExistentialEqualsPinLaw" = some m.cls := by rw [show (s.setVm T30.vm).vm = T30.vm from rfl, hS30'.1.alike.findClass]; exact hown
    obtain ⟨b30, rfl, N30q, lo30, K30, S30⟩ := hQ30
    have lo30 := own_nle lo30
    have N30 := Fr.app N24 N30q
    have hi30 := own_nlt (S30.exa.lt)
    have sz30 := K30.1
    have HC30 := HC24.trans HR30
    have cf_31 := (cf_25.keep K30)
    have od_32 := Ord.of cf_31 (hw _ (List.mem_of_getElem? (i := 1) rfl)) (by decide)
    have cf_33 := (cf_27.keep K30)
    have od_34 := Ord.of cf_33 (hw _ (List.mem_of_getElem? (i := 1) rfl)) (by decide)
    refine go_tr (B := (T30.setTop (mkF m 100 #[.val (.int pa), .val (.int fa), .val (.int sa), .val (.int da), .val (.int ea), .val (.int md), .val (.int p2), .val (.int f2), .val (.int s2), .val (.int i1), .val (.ref b2), .unset, .unset] [(.ref b30), (.ref b24), (.ref b22), (.ref b22)]))) (st30) ?_
    refine go_of (B := (T30.setTop (mkF m 102 #[.val (.int pa), .val (.int fa), .val (.int sa), .val (.int da), .val (.int ea), .val (.int md), .val (.int p2), .val (.int f2), .val (.int s2), .val (.int i1), .val (.ref b2), .unset, .unset] [(.int s2), (.ref b30), (.ref b24), (.ref b22), (.ref b22)]))) (fun _ kk => XS.iload X30.here hx rfl (hb hby at_100) rfl kk) ?_
    have cf_35 := (cf_29.keep K30 all0)
    obtain ⟨_, _, ⟨T36, L36, k36, n36⟩, -, X36', hS36', gr36, ⟨Lc36, hQ36, l36, y36, z36, HR36⟩, st36⟩ := callSS X30 hx (y := (⟨"com/example/sure_paths/surepaths/model/ClassToExistentialEqualsPinLaw", "str", "(I)Ljava/lang/String;"⟩ : MethodName)) hown (mvT hZ (hw _ (List.mem_of_getElem? (i := 3) rfl))) (mvT hZ (hw _ (List.mem_of_getElem? (i := 4) rfl))) (mvT hZ (hw _ (List.mem_of_getElem? (i := 5) rfl))) (mvT hZ (hw _ (List.mem_of_getElem? (i := 6) rfl))) (by decide) (backOfSH (W := 4) (rm1 l Z a0 hw [] s2 gC T30.heap n0 (by first | omega | exact own_ne (by omega) | exact own_le (by omega) | exact own_lt (by omega)) cf_35 SC hgC) hZ (hw _ (List.mem_of_getElem? (i := 6) rfl)) (hw _ (List.mem_of_getElem? (i := 5) rfl)) (by decide) (by decide) hEL HC30.1) (g := (mkF m 102 #[.val (.int pa), .val (.int fa), .val (.int sa), .val (.int da), .val (.int ea), .val (.int md), .val (.int p2), .val (.int f2), .val (.int s2), .val (.int i1), .val (.ref b2), .unset, .unset] [(.int s2), (.ref b30), (.ref b24), (.ref b22), (.ref b22)])) rfl (by rw [hml]; rfl) (argsL := [(.int s2)]) (rest := [(.ref b30), (.ref b24), (.ref b22), (.ref b22)]) (lenOf pd__I_Ljava_lang_String_ rfl) rfl (by show 2 * 0 + _ ≤ _; exact Nat.le_of_eq rfl) (hb hby at_102) (fun _ _ => ⟨rfl, rfl, (by decide : 38 + 6 ≤ _), (by decide : 166 + 12 ≤ _)⟩)
    dsimp only [Pt.U, Pt.locs, Pt.cells, Pt.slots] at X36' hS36' gr36 l36 y36 z36 st36 hQ36 HR36
    subst l36 y36 z36
    have X36 : Stand _ _ _ _ (s.setVm T36.vm) _ _ _ _ _ T36 _ _ _ := X36'
    have hS : s.Since T36.vm T36.heap.size := foldS hS (by first | omega | exact own_ne (by omega) | exact own_le (by omega) | exact own_lt (by omega)) hS36' gr36
    have hZ : Z.Warmed39 (s.setVm T36.vm).vm := State.Warmed39.trans (t := s.setVm T30.vm) hZ hS36'.1
    have hown : (s.setVm T36.vm).vm.findClass "com/example/sure_paths/surepaths/model/ClassToExistentialEqualsPinLaw" = some m.cls := by rw [show (s.setVm T36.vm).vm = T36.vm from rfl, hS36'.1.alike.findClass]; exact hown
    obtain ⟨b36, rfl, N36q, lo36, K36, S36⟩ := hQ36
    have lo36 := own_nle lo36
    have N36 := Fr.app N30 N36q
    have hi36 := own_nlt (S36.exa.lt)
    have sz36 := K36.1
    have HC36 := HC30.trans HR36
    have cf_37 := (cf_31.keep K36)
    have od_38 := Ord.of cf_37 (hw _ (List.mem_of_getElem? (i := 1) rfl)) (by decide)
    have cf_39 := (cf_33.keep K36)
    have od_40 := Ord.of cf_39 (hw _ (List.mem_of_getElem? (i := 1) rfl)) (by decide)
    refine go_tr (B := (T36.setTop (mkF m 105 #[.val (.int pa), .val (.int fa), .val (.int sa), .val (.int da), .val (.int ea), .val (.int md), .val (.int p2), .val (.int f2), .val (.int s2), .val (.int i1), .val (.ref b2), .unset, .unset] [(.ref b36), (.ref b30), (.ref b24), (.ref b22), (.ref b22)]))) (st36) ?_
    have cf_41 := (((F22_subClass.keep K24 nin0).keep K30 nin0).keep K36 nin0)
    have cf_42 := (((F22_property.keep K24 nin0).keep K30 nin0).keep K36 nin0)
    have cf_43 := (((F22_filler.keep K24 nin0).keep K30 nin0).keep K36 nin0)
    have cf_44 := ((S24.exa.keep K30).keep K36)
    have cf_45 := (S30.exa.keep K36)
    obtain ⟨_, _, ⟨T46, L46, k46, n46⟩, -, X46', hS46', gr46, ⟨Lc46, hQ46, l46, y46, z46, HR46⟩, st46⟩ := X36.specialBackS hx (y := (⟨"com/example/sure_paths/surepaths/model/ClassToExistential", "<init>", "(Ljava/lang/String;Ljava/lang/String;Ljava/lang/String;)V"⟩ : MethodName)) rfl hown (mvT hZ (hw _ (List.mem_of_getElem? (i := 32) rfl))) (mvT hZ (hw _ (List.mem_of_getElem? (i := 33) rfl))) (mvT hZ (hw _ (List.mem_of_getElem? (i := 34) rfl))) (by decide) (backOfSH (W := 1) (rm6 l Z a0 hw [] b22 b24 b30 b36 _ _ _ T36.heap n0 (by first | omega | exact own_ne (by omega) | exact own_le (by omega) | exact own_lt (by omega)) cf_39 cf_41 cf_42 cf_43 (by first | omega | exact own_ne (by omega) | exact own_le (by omega) | exact own_lt (by omega)) cf_44 cf_45 S36.exa) hZ (hw _ (List.mem_of_getElem? (i := 34) rfl)) (hw _ (List.mem_of_getElem? (i := 2) rfl)) (by decide) (by decide) hEL HC36.1) (g := (mkF m 105 #[.val (.int pa), .val (.int fa), .val (.int sa), .val (.int da), .val (.int ea), .val (.int md), .val (.int p2), .val (.int f2), .val (.int s2), .val (.int i1), .val (.ref b2), .unset, .unset] [(.ref b36), (.ref b30), (.ref b24), (.ref b22), (.ref b22)])) rfl (by rw [hml]; rfl) (Steps.refl _) (a := b22) (argsL := [(.ref b24), (.ref b30), (.ref b36)]) (rest := [(.ref b22)]) (lenOf pd__Ljava_lang_String_Ljava_lang_String_Ljava_lang_String__V rfl) rfl (by show 2 * 0 + _ ≤ _; exact Nat.le_of_eq rfl) (hb hby at_105) (fun _ _ => ⟨rfl, rfl, (by decide : 44 + 6 ≤ _), (by decide : 178 + 100 ≤ _)⟩)
    dsimp only [Pt.U, Pt.locs, Pt.cells, Pt.slots] at X46' hS46' gr46 l46 y46 z46 st46 hQ46 HR46
    subst l46 y46 z46
    have X46 : Stand _ _ _ _ (s.setVm T46.vm) _ _ _ _ _ T46 _ _ _ := X46'
    have hS : s.Since T46.vm T46.heap.size := foldS hS (by first | omega | exact own_ne (by omega) | exact own_le (by omega) | exact own_lt (by omega)) hS46' gr46
    have hZ : Z.Warmed39 (s.setVm T46.vm).vm := State.Warmed39.trans (t := s.setVm T36.vm) hZ hS46'.1
    have hown : (s.setVm T46.vm).vm.findClass "com/example/sure_paths/surepaths/model/ClassToExistentialEqualsPinLaw" = some m.cls := by rw [show (s.setVm T46.vm).vm = T46.vm from rfl, hS46'.1.alike.findClass]; exact hown
    obtain ⟨rfl, N46q, K46, A46⟩ := hQ46
    have N46 := Fr.app N36 N46q
    have sz46 := K46.1
    have HC46 := HC36.trans HR46
    refine go_tr (B := (T46.setTop (mkF m 108 #[.val (.int pa), .val (.int fa), .val (.int sa), .val (.int da), .val (.int ea), .val (.int md), .val (.int p2), .val (.int f2), .val (.int s2), .val (.int i1), .val (.ref b2), .unset, .unset] [(.ref b22)]))) (st46) ?_
    refine go_of (B := (T46.setTop (mkF m 110 #[.val (.int pa), .val (.int fa), .val (.int sa), .val (.int da), .val (.int ea), .val (.int md), .val (.int p2), .val (.int f2), .val (.int s2), .val (.int i1), .val (.ref b2), .val (.ref b22), .unset] []))) (fun _ kk => XS.astore X46.here hx rfl (hb hby at_108) rfl rfl rfl kk) ?_
    refine go_of (B := (T46.setTop (mkF m 111 #[.val (.int pa), .val (.int fa), .val (.int sa), .val (.int da), .val (.int ea), .val (.int md), .val (.int p2), .val (.int f2), .val (.int s2), .val (.int i1), .val (.ref b2), .val (.ref b22), .unset] [(.int pa)]))) (fun _ kk => XS.iloadN X46.here hx rfl (hb hby at_110) rfl kk) ?_
    obtain ⟨_, _, ⟨T47, L47, k47, n47⟩, -, X47, ⟨Lc47, hQ47, l47, y47, z47⟩, st47⟩ := Jvm.LawKit.callS X46 hx (y := (⟨"com/example/sure_paths/surepaths/model/ClassToExistentialEqualsPinLaw", "norm", "(I)I"⟩ : MethodName)) hown (mvT hZ (hw _ (List.mem_of_getElem? (i := 50) rfl))) (mvT hZ (hw _ (List.mem_of_getElem? (i := 51) rfl))) (mvT hZ (hw _ (List.mem_of_getElem? (i := 5) rfl))) (mvT hZ (hw _ (List.mem_of_getElem? (i := 52) rfl))) (by decide) (backOf (W := 0) (rm8 l Z a0 hw [] pa T46.heap n0 (by first | omega | exact own_ne (by omega) | exact own_le (by omega) | exact own_lt (by omega))) hZ (hw _ (List.mem_of_getElem? (i := 52) rfl)) (hw _ (List.mem_of_getElem? (i := 5) rfl)) (by decide) (by decide)) (g := (mkF m 111 #[.val (.int pa), .val (.int fa), .val (.int sa), .val (.int da), .val (.int ea), .val (.int md), .val (.int p2), .val (.int f2), .val (.int s2), .val (.int i1), .val (.ref b2), .val (.ref b22), .unset] [(.int pa)])) rfl (by rw [hml]; rfl) (argsL := [(.int pa)]) (rest := []) (lenOf pd__I_I rfl) rfl (by show 2 * 0 + _ ≤ _; exact Nat.le_of_eq rfl) (hb hby at_111) (fun _ _ => ⟨rfl, rfl, (by decide : 50 + 0 ≤ _), (by decide : 278 + 0 ≤ _)⟩)
    dsimp only [Pt.U, Pt.locs, Pt.cells, Pt.slots] at X47 l47 y47 z47 st47 hQ47
    subst l47 y47 z47
    obtain ⟨rfl, N47q, e47⟩ := hQ47
    have N47 := Fr.app N46 N47q
    refine go_of (B := (T47.setTop (mkF m 114 #[.val (.int pa), .val (.int fa), .val (.int sa), .val (.int da), .val (.int ea), .val (.int md), .val (.int p2), .val (.int f2), .val (.int s2), .val (.int i1), .val (.ref b2), .val (.ref b22), .unset] [(.int (own_norm pa))]))) (st47) ?_
    refine go_of (B := (T47.setTop (mkF m 116 #[.val (.int pa), .val (.int fa), .val (.int sa), .val (.int da), .val (.int ea), .val (.int md), .val (.int p2), .val (.int f2), .val (.int s2), .val (.int i1), .val (.ref b2), .val (.ref b22), .unset] [(.int p2), (.int (own_norm pa))]))) (fun _ kk => XS.iload X47.here hx rfl (hb hby at_114) rfl kk) ?_
    obtain ⟨_, _, ⟨T48, L48, k48, n48⟩, -, X48, ⟨Lc48, hQ48, l48, y48, z48⟩, st48⟩ := Jvm.LawKit.callS X47 hx (y := (⟨"com/example/sure_paths/surepaths/model/ClassToExistentialEqualsPinLaw", "norm", "(I)I"⟩ : MethodName)) hown (mvT hZ (hw _ (List.mem_of_getElem? (i := 50) rfl))) (mvT hZ (hw _ (List.mem_of_getElem? (i := 51) rfl))) (mvT hZ (hw _ (List.mem_of_getElem? (i := 5) rfl))) (mvT hZ (hw _ (List.mem_of_getElem? (i := 52) rfl))) (by decide) (backOf (W := 1) (rm8 l Z a0 hw [] p2 T46.heap n0 (by first | omega | exact own_ne (by omega) | exact own_le (by omega) | exact own_lt (by omega))) hZ (hw _ (List.mem_of_getElem? (i := 52) rfl)) (hw _ (List.mem_of_getElem? (i := 5) rfl)) (by decide) (by decide)) (g := (mkF m 116 #[.val (.int pa), .val (.int fa), .val (.int sa), .val (.int da), .val (.int ea), .val (.int md), .val (.int p2), .val (.int f2), .val (.int s2), .val (.int i1), .val (.ref b2), .val (.ref b22), .unset] [(.int p2), (.int (own_norm pa))])) rfl (by rw [hml]; rfl) (argsL := [(.int p2)]) (rest := [(.int (own_norm pa))]) (lenOf pd__I_I rfl) rfl (by show 2 * 0 + _ ≤ _; exact Nat.le_of_eq rfl) (hb hby at_116) (fun _ _ => ⟨rfl, e47, (by decide : 50 + 0 ≤ _), (by decide : 278 + 0 ≤ _)⟩)
    dsimp only [Pt.U, Pt.locs, Pt.cells, Pt.slots] at X48 l48 y48 z48 st48 hQ48
    subst l48 y48 z48
    obtain ⟨rfl, N48q, e48⟩ := hQ48
    have N48 := Fr.app N47 N48q
    refine go_of (B := (T48.setTop (mkF m 119 #[.val (.int pa), .val (.int fa), .val (.int sa), .val (.int da), .val (.int ea), .val (.int md), .val (.int p2), .val (.int f2), .val (.int s2), .val (.int i1), .val (.ref b2), .val (.ref b22), .unset] [(.int (own_norm p2)), (.int (own_norm pa))]))) (st48) ?_
    by_cases hc49 : (own_norm pa) = (own_norm p2)
    · refine go_of (B := (T48.setTop (mkF m 122 #[.val (.int pa), .val (.int fa), .val (.int sa), .val (.int da), .val (.int ea), .val (.int md), .val (.int p2), .val (.int f2), .val (.int s2), .val (.int i1), .val (.ref b2), .val (.ref b22), .unset] []))) (fun _ kk => XS.icmpNo X48.here hx rfl (hb hby at_119) rfl (teq hc49).2 kk) ?_
      refine go_of (B := (T48.setTop (mkF m 123 #[.val (.int pa), .val (.int fa), .val (.int sa), .val (.int da), .val (.int ea), .val (.int md), .val (.int p2), .val (.int f2), .val (.int s2), .val (.int i1), .val (.ref b2), .val (.ref b22), .unset] [(.int fa)]))) (fun _ kk => XS.iloadN X48.here hx rfl (hb hby at_122) rfl kk) ?_
      obtain ⟨_, _, ⟨T50, L50, k50, n50⟩, -, X50, ⟨Lc50, hQ50, l50, y50, z50⟩, st50⟩ := Jvm.LawKit.callS X48 hx (y := (⟨"com/example/sure_paths/surepaths/model/ClassToExistentialEqualsPinLaw", "norm", "(I)I"⟩ : MethodName)) hown (mvT hZ (hw _ (List.mem_of_getElem? (i := 50) rfl))) (mvT hZ (hw _ (List.mem_of_getElem? (i := 51) rfl))) (mvT hZ (hw _ (List.mem_of_getElem? (i := 5) rfl))) (mvT hZ (hw _ (List.mem_of_getElem? (i := 52) rfl))) (by decide) (backOf (W := 0) (rm8 l Z a0 hw [] fa T46.heap n0 (by first | omega | exact own_ne (by omega) | exact own_le (by omega) | exact own_lt (by omega))) hZ (hw _ (List.mem_of_getElem? (i := 52) rfl)) (hw _ (List.mem_of_getElem? (i := 5) rfl)) (by decide) (by decide)) (g := (mkF m 123 #[.val (.int pa), .val (.int fa), .val (.int sa), .val (.int da), .val (.int ea), .val (.int md), .val (.int p2), .val (.int f2), .val (.int s2), .val (.int i1), .val (.ref b2), .val (.ref b22), .unset] [(.int fa)])) rfl (by rw [hml]; rfl) (argsL := [(.int fa)]) (rest := []) (lenOf pd__I_I rfl) rfl (by show 2 * 0 + _ ≤ _; exact Nat.le_of_eq rfl) (hb hby at_123) (fun _ _ => ⟨rfl, e48, (by decide : 50 + 0 ≤ _), (by decide : 278 + 0 ≤ _)⟩)
      dsimp only [Pt.U, Pt.locs, Pt.cells, Pt.slots] at X50 l50 y50 z50 st50 hQ50
      subst l50 y50 z50
      obtain ⟨rfl, N50q, e50⟩ := hQ50
      have N50 := Fr.app N48 N50q
      refine go_of (B := (T50.setTop (mkF m 126 #[.val (.int pa), .val (.int fa), .val (.int sa), .val (.int da), .val (.int ea), .val (.int md), .val (.int p2), .val (.int f2), .val (.int s2), .val (.int i1), .val (.ref b2), .val (.ref b22), .unset] [(.int (own_norm fa))]))) (st50) ?_
      refine go_of (B := (T50.setTop (mkF m 128 #[.val (.int pa), .val (.int fa), .val (.int sa), .val (.int da), .val (.int ea), .val (.int md), .val (.int p2), .val (.int f2), .val (.int s2), .val (.int i1), .val (.ref b2), .val (.ref b22), .unset] [(.int f2), (.int (own_norm fa))]))) (fun _ kk => XS.iload X50.here hx rfl (hb hby at_126) rfl kk) ?_
      obtain ⟨_, _, ⟨T51, L51, k51, n51⟩, -, X51, ⟨Lc51, hQ51, l51, y51, z51⟩, st51⟩ := Jvm.LawKit.callS X50 hx (y := (⟨"com/example/sure_paths/surepaths/model/ClassToExistentialEqualsPinLaw", "norm", "(I)I"⟩ : MethodName)) hown (mvT hZ (hw _ (List.mem_of_getElem? (i := 50) rfl))) (mvT hZ (hw _ (List.mem_of_getElem? (i := 51) rfl))) (mvT hZ (hw _ (List.mem_of_getElem? (i := 5) rfl))) (mvT hZ (hw _ (List.mem_of_getElem? (i := 52) rfl))) (by decide) (backOf (W := 1) (rm8 l Z a0 hw [] f2 T46.heap n0 (by first | omega | exact own_ne (by omega) | exact own_le (by omega) | exact own_lt (by omega))) hZ (hw _ (List.mem_of_getElem? (i := 52) rfl)) (hw _ (List.mem_of_getElem? (i := 5) rfl)) (by decide) (by decide)) (g := (mkF m 128 #[.val (.int pa), .val (.int fa), .val (.int sa), .val (.int da), .val (.int ea), .val (.int md), .val (.int p2), .val (.int f2), .val (.int s2), .val (.int i1), .val (.ref b2), .val (.ref b22), .unset] [(.int f2), (.int (own_norm fa))])) rfl (by rw [hml]; rfl) (argsL := [(.int f2)]) (rest := [(.int (own_norm fa))]) (lenOf pd__I_I rfl) rfl (by show 2 * 0 + _ ≤ _; exact Nat.le_of_eq rfl) (hb hby at_128) (fun _ _ => ⟨rfl, e50, (by decide : 50 + 0 ≤ _), (by decide : 278 + 0 ≤ _)⟩)
      dsimp only [Pt.U, Pt.locs, Pt.cells, Pt.slots] at X51 l51 y51 z51 st51 hQ51
      subst l51 y51 z51
      obtain ⟨rfl, N51q, e51⟩ := hQ51
      have N51 := Fr.app N50 N51q
      refine go_of (B := (T51.setTop (mkF m 131 #[.val (.int pa), .val (.int fa), .val (.int sa), .val (.int da), .val (.int ea), .val (.int md), .val (.int p2), .val (.int f2), .val (.int s2), .val (.int i1), .val (.ref b2), .val (.ref b22), .unset] [(.int (own_norm f2)), (.int (own_norm fa))]))) (st51) ?_
      by_cases hc52 : (own_norm fa) = (own_norm f2)
      · refine go_of (B := (T51.setTop (mkF m 134 #[.val (.int pa), .val (.int fa), .val (.int sa), .val (.int da), .val (.int ea), .val (.int md), .val (.int p2), .val (.int f2), .val (.int s2), .val (.int i1), .val (.ref b2), .val (.ref b22), .unset] []))) (fun _ kk => XS.icmpNo X51.here hx rfl (hb hby at_131) rfl (teq hc52).2 kk) ?_
        refine go_of (B := (T51.setTop (mkF m 135 #[.val (.int pa), .val (.int fa), .val (.int sa), .val (.int da), .val (.int ea), .val (.int md), .val (.int p2), .val (.int f2), .val (.int s2), .val (.int i1), .val (.ref b2), .val (.ref b22), .unset] [(.int sa)]))) (fun _ kk => XS.iloadN X51.here hx rfl (hb hby at_134) rfl kk) ?_
        obtain ⟨_, _, ⟨T53, L53, k53, n53⟩, -, X53, ⟨Lc53, hQ53, l53, y53, z53⟩, st53⟩ := Jvm.LawKit.callS X51 hx (y := (⟨"com/example/sure_paths/surepaths/model/ClassToExistentialEqualsPinLaw", "norm", "(I)I"⟩ : MethodName)) hown (mvT hZ (hw _ (List.mem_of_getElem? (i := 50) rfl))) (mvT hZ (hw _ (List.mem_of_getElem? (i := 51) rfl))) (mvT hZ (hw _ (List.mem_of_getElem? (i := 5) rfl))) (mvT hZ (hw _ (List.mem_of_getElem? (i := 52) rfl))) (by decide) (backOf (W := 0) (rm8 l Z a0 hw [] sa T46.heap n0 (by first | omega | exact own_ne (by omega) | exact own_le (by omega) | exact own_lt (by omega))) hZ (hw _ (List.mem_of_getElem? (i := 52) rfl)) (hw _ (List.mem_of_getElem? (i := 5) rfl)) (by decide) (by decide)) (g := (mkF m 135 #[.val (.int pa), .val (.int fa), .val (.int sa), .val (.int da), .val (.int ea), .val (.int md), .val (.int p2), .val (.int f2), .val (.int s2), .val (.int i1), .val (.ref b2), .val (.ref b22), .unset] [(.int sa)])) rfl (by rw [hml]; rfl) (argsL := [(.int sa)]) (rest := []) (lenOf pd__I_I rfl) rfl (by show 2 * 0 + _ ≤ _; exact Nat.le_of_eq rfl) (hb hby at_135) (fun _ _ => ⟨rfl, e51, (by decide : 50 + 0 ≤ _), (by decide : 278 + 0 ≤ _)⟩)
        dsimp only [Pt.U, Pt.locs, Pt.cells, Pt.slots] at X53 l53 y53 z53 st53 hQ53
        subst l53 y53 z53
        obtain ⟨rfl, N53q, e53⟩ := hQ53
        have N53 := Fr.app N51 N53q
        refine go_of (B := (T53.setTop (mkF m 138 #[.val (.int pa), .val (.int fa), .val (.int sa), .val (.int da), .val (.int ea), .val (.int md), .val (.int p2), .val (.int f2), .val (.int s2), .val (.int i1), .val (.ref b2), .val (.ref b22), .unset] [(.int (own_norm sa))]))) (st53) ?_
        refine go_of (B := (T53.setTop (mkF m 140 #[.val (.int pa), .val (.int fa), .val (.int sa), .val (.int da), .val (.int ea), .val (.int md), .val (.int p2), .val (.int f2), .val (.int s2), .val (.int i1), .val (.ref b2), .val (.ref b22), .unset] [(.int s2), (.int (own_norm sa))]))) (fun _ kk => XS.iload X53.here hx rfl (hb hby at_138) rfl kk) ?_
        obtain ⟨_, _, ⟨T54, L54, k54, n54⟩, -, X54, ⟨Lc54, hQ54, l54, y54, z54⟩, st54⟩ := Jvm.LawKit.callS X53 hx (y := (⟨"com/example/sure_paths/surepaths/model/ClassToExistentialEqualsPinLaw", "norm", "(I)I"⟩ : MethodName)) hown (mvT hZ (hw _ (List.mem_of_getElem? (i := 50) rfl))) (mvT hZ (hw _ (List.mem_of_getElem? (i := 51) rfl))) (mvT hZ (hw _ (List.mem_of_getElem? (i := 5) rfl))) (mvT hZ (hw _ (List.mem_of_getElem? (i := 52) rfl))) (by decide) (backOf (W := 1) (rm8 l Z a0 hw [] s2 T46.heap n0 (by first | omega | exact own_ne (by omega) | exact own_le (by omega) | exact own_lt (by omega))) hZ (hw _ (List.mem_of_getElem? (i := 52) rfl)) (hw _ (List.mem_of_getElem? (i := 5) rfl)) (by decide) (by decide)) (g := (mkF m 140 #[.val (.int pa), .val (.int fa), .val (.int sa), .val (.int da), .val (.int ea), .val (.int md), .val (.int p2), .val (.int f2), .val (.int s2), .val (.int i1), .val (.ref b2), .val (.ref b22), .unset] [(.int s2), (.int (own_norm sa))])) rfl (by rw [hml]; rfl) (argsL := [(.int s2)]) (rest := [(.int (own_norm sa))]) (lenOf pd__I_I rfl) rfl (by show 2 * 0 + _ ≤ _; exact Nat.le_of_eq rfl) (hb hby at_140) (fun _ _ => ⟨rfl, e53, (by decide : 50 + 0 ≤ _), (by decide : 278 + 0 ≤ _)⟩)
        dsimp only [Pt.U, Pt.locs, Pt.cells, Pt.slots] at X54 l54 y54 z54 st54 hQ54
        subst l54 y54 z54
        obtain ⟨rfl, N54q, e54⟩ := hQ54
        have N54 := Fr.app N53 N54q
        refine go_of (B := (T54.setTop (mkF m 143 #[.val (.int pa), .val (.int fa), .val (.int sa), .val (.int da), .val (.int ea), .val (.int md), .val (.int p2), .val (.int f2), .val (.int s2), .val (.int i1), .val (.ref b2), .val (.ref b22), .unset] [(.int (own_norm s2)), (.int (own_norm sa))]))) (st54) ?_
        by_cases hc55 : (own_norm sa) = (own_norm s2)
        · refine go_of (B := (T54.setTop (mkF m 146 #[.val (.int pa), .val (.int fa), .val (.int sa), .val (.int da), .val (.int ea), .val (.int md), .val (.int p2), .val (.int f2), .val (.int s2), .val (.int i1), .val (.ref b2), .val (.ref b22), .unset] []))) (fun _ kk => XS.icmpNo X54.here hx rfl (hb hby at_143) rfl (teq hc55).2 kk) ?_
          refine go_of (B := (T54.setTop (mkF m 147 #[.val (.int pa), .val (.int fa), .val (.int sa), .val (.int da), .val (.int ea), .val (.int md), .val (.int p2), .val (.int f2), .val (.int s2), .val (.int i1), .val (.ref b2), .val (.ref b22), .unset] [(.int (1 : Int32))]))) (fun _ kk => XS.iconst X54.here hx rfl (hb hby at_146) kk) ?_
          refine go_of (B := (T54.setTop (mkF m 151 #[.val (.int pa), .val (.int fa), .val (.int sa), .val (.int da), .val (.int ea), .val (.int md), .val (.int p2), .val (.int f2), .val (.int s2), .val (.int i1), .val (.ref b2), .val (.ref b22), .unset] [(.int (1 : Int32))]))) (fun _ kk => XS.goto X54.here hx rfl (pc0 := 147) (pc' := 151) rfl (hb hby at_147) (by decide) (by decide) kk) ?_
          refine go_of (B := (T54.setTop (mkF m 153 #[.val (.int pa), .val (.int fa), .val (.int sa), .val (.int da), .val (.int ea), .val (.int md), .val (.int p2), .val (.int f2), .val (.int s2), .val (.int i1), .val (.ref b2), .val (.ref b22), .val (.int (1 : Int32))] []))) (fun _ kk => XS.istore X54.here hx rfl (hb hby at_151) rfl rfl kk) ?_
          refine go_of (B := (T54.setTop (mkF m 155 #[.val (.int pa), .val (.int fa), .val (.int sa), .val (.int da), .val (.int ea), .val (.int md), .val (.int p2), .val (.int f2), .val (.int s2), .val (.int i1), .val (.ref b2), .val (.ref b22), .val (.int (1 : Int32))] [(.ref b2)]))) (fun _ kk => XS.aload X54.here hx rfl (hb hby at_153) rfl rfl kk) ?_
          refine go_of (B := (T54.setTop (mkF m 157 #[.val (.int pa), .val (.int fa), .val (.int sa), .val (.int da), .val (.int ea), .val (.int md), .val (.int p2), .val (.int f2), .val (.int s2), .val (.int i1), .val (.ref b2), .val (.ref b22), .val (.int (1 : Int32))] [(.ref b22), (.ref b2)]))) (fun _ kk => XS.aload X54.here hx rfl (hb hby at_155) rfl rfl kk) ?_
          have cf_56 := S4.keep (((((((((Keep.refl T4.heap [b2]).trans K8 all0).trans K12 all0).trans K20 (allS (Or.inl (List.mem_of_getElem? (i := 0) rfl)) all0)).ext E22).trans K24 all0).trans K30 all0).trans K36 all0).trans K46 (allS (Or.inr (by first | omega | exact own_ne (by omega) | exact own_le (by omega) | exact own_lt (by omega))) all0)) (allS od_6 all0)
          have cf_57 := S8.keep ((((((((Keep.refl T8.heap [b2]).trans K12 all0).trans K20 (allS (Or.inl (List.mem_of_getElem? (i := 0) rfl)) all0)).ext E22).trans K24 all0).trans K30 all0).trans K36 all0).trans K46 (allS (Or.inr (by first | omega | exact own_ne (by omega) | exact own_le (by omega) | exact own_lt (by omega))) all0)) (allS od_10 all0)
          have cf_58 := S12.keep (((((((Keep.refl T12.heap [b2]).trans K20 (allS (Or.inl (List.mem_of_getElem? (i := 0) rfl)) all0)).ext E22).trans K24 all0).trans K30 all0).trans K36 all0).trans K46 (allS (Or.inr (by first | omega | exact own_ne (by omega) | exact own_le (by omega) | exact own_lt (by omega))) all0)) (allS od_14 all0)
          have cf_59 := S24.keep ((((Keep.refl T24.heap [b22]).trans K30 all0).trans K36 all0).trans K46 (allS (Or.inl (List.mem_of_getElem? (i := 0) rfl)) all0)) (allS od_28 all0)
          have cf_60 := S30.keep (((Keep.refl T30.heap [b22]).trans K36 all0).trans K46 (allS (Or.inl (List.mem_of_getElem? (i := 0) rfl)) all0)) (allS od_34 all0)
          have cf_61 := S36.keep ((Keep.refl T36.heap [b22]).trans K46 (allS (Or.inl (List.mem_of_getElem? (i := 0) rfl)) all0)) (allS od_40 all0)
          have cf_62 := ((cf_35.keep K36 all0).keep K46 (allS (by first | omega | exact own_ne (by omega) | exact own_le (by omega) | exact own_lt (by omega)) all0))
          have cf_63 := (cf_37.keep K46)
          have cf_64 := (((((A20.2.1.ext E22).keep K24 nin0).keep K30 nin0).keep K36 nin0).keep K46 (ninS (by first | omega | exact own_ne (by omega) | exact own_le (by omega) | exact own_lt (by omega)) nin0))
          have cf_65 := (((((A20.2.2.1.ext E22).keep K24 nin0).keep K30 nin0).keep K36 nin0).keep K46 (ninS (by first | omega | exact own_ne (by omega) | exact own_le (by omega) | exact own_lt (by omega)) nin0))
          have cf_66 := (((((A20.2.2.2.ext E22).keep K24 nin0).keep K30 nin0).keep K36 nin0).keep K46 (ninS (by first | omega | exact own_ne (by omega) | exact own_le (by omega) | exact own_lt (by omega)) nin0))
          obtain ⟨cq67, kq67, q67a, q67b, q67c⟩ := isOf hZ e54 cf_63
          obtain ⟨_, _, ⟨T67, L67, k67, n67⟩, -, X67, ⟨Lc67, hQ67, l67, y67, z67⟩, st67⟩ := X54.virtualBack hx (y := (⟨"com/example/sure_paths/surepaths/model/ClassToExistential", "equals", "(Ljava/lang/Object;)Z"⟩ : MethodName)) (z := (⟨"com/example/sure_paths/surepaths/model/ClassToExistential", "equals", "(Ljava/lang/Object;)Z"⟩ : MethodName)) hown (mvT hZ (hw _ (List.mem_of_getElem? (i := 53) rfl))) (mvT hZ (hw _ (List.mem_of_getElem? (i := 54) rfl))) (notFace_of_selects (args := #[]) (mvT hZ (hw _ (List.mem_of_getElem? (i := 56) rfl)))) (mvT hZ (hw _ (List.mem_of_getElem? (i := 56) rfl))) (mvT hZ (hw _ (List.mem_of_getElem? (i := 55) rfl))) (by decide) (backOf (W := 0) (eq_same l Z a0 hw [] b2 b22 b4 b8 b12 b24 b30 b36 (own_s pa) (own_s fa) (own_s sa) (own_s p2) (own_s f2) (own_s s2) gC T46.heap n0 (by first | omega | exact own_ne (by omega) | exact own_le (by omega) | exact own_lt (by omega)) cf_62 SC hgC ⟨cf_63, cf_64, cf_65, cf_66⟩ ⟨A46.1, A46.2.1, A46.2.2.1, A46.2.2.2⟩ cf_56 cf_57 cf_58 cf_59 cf_60 cf_61 (fun q => absurd q (own_ne (by first | omega | exact own_ne (by omega) | exact own_le (by omega) | exact own_lt (by omega)))) (fun q => absurd q (own_ne (by first | omega | exact own_ne (by omega) | exact own_le (by omega) | exact own_lt (by omega)))) (fun q => absurd q (own_ne (by first | omega | exact own_ne (by omega) | exact own_le (by omega) | exact own_lt (by omega))))) hZ (hw _ (List.mem_of_getElem? (i := 57) rfl)) (hw _ (List.mem_of_getElem? (i := 2) rfl)) (by decide) (by decide)) q67a q67c (g := (mkF m 157 #[.val (.int pa), .val (.int fa), .val (.int sa), .val (.int da), .val (.int ea), .val (.int md), .val (.int p2), .val (.int f2), .val (.int s2), .val (.int i1), .val (.ref b2), .val (.ref b22), .val (.int (1 : Int32))] [(.ref b22), (.ref b2)])) rfl (by rw [hml]; rfl) (Steps.refl _) (argsL := [(.ref b22)]) (rest := []) (lenOf pd__Ljava_lang_Object__Z rfl) rfl (by show 2 * 0 + _ ≤ _; exact Nat.le_of_eq rfl) (hb hby at_157) (fun _ _ => ⟨rfl, e54, (by decide : 50 + 0 ≤ _), (by decide : 278 + 0 ≤ _)⟩)
          dsimp only [Pt.U, Pt.locs, Pt.cells, Pt.slots] at X67 l67 y67 z67 st67 hQ67
          subst l67 y67 z67
          obtain ⟨rfl, N67q, e67⟩ := hQ67
          have N67 := Fr.app N54 N67q
          refine go_tr (B := (T67.setTop (mkF m 160 #[.val (.int pa), .val (.int fa), .val (.int sa), .val (.int da), .val (.int ea), .val (.int md), .val (.int p2), .val (.int f2), .val (.int s2), .val (.int i1), .val (.ref b2), .val (.ref b22), .val (.int (1 : Int32))] [(.int (own_eq3 (own_s pa) (own_s p2) (own_s fa) (own_s f2) (own_s sa) (own_s s2)))]))) (st67) ?_
          refine go_of (B := (T67.setTop (mkF m 162 #[.val (.int pa), .val (.int fa), .val (.int sa), .val (.int da), .val (.int ea), .val (.int md), .val (.int p2), .val (.int f2), .val (.int s2), .val (.int i1), .val (.ref b2), .val (.ref b22), .val (.int (1 : Int32))] [(.int (1 : Int32)), (.int (own_eq3 (own_s pa) (own_s p2) (own_s fa) (own_s f2) (own_s sa) (own_s s2)))]))) (fun _ kk => XS.iload X67.here hx rfl (hb hby at_160) rfl kk) ?_
          refine go_of (B := (T67.setTop (mkF m 165 #[.val (.int pa), .val (.int fa), .val (.int sa), .val (.int da), .val (.int ea), .val (.int md), .val (.int p2), .val (.int f2), .val (.int s2), .val (.int i1), .val (.ref b2), .val (.ref b22), .val (.int (1 : Int32))] []))) (fun _ kk => XS.icmpNo X67.here hx rfl (hb hby at_162) rfl (teq (by rw [own_fin pa fa sa p2 f2 s2]; simp only [hc49, hc52, hc55, ↓reduceIte] : (own_eq3 (own_s pa) (own_s p2) (own_s fa) (own_s f2) (own_s sa) (own_s s2)) = (1 : Int32))).2 kk) ?_
          refine go_of (B := (T67.setTop (mkF m 167 #[.val (.int pa), .val (.int fa), .val (.int sa), .val (.int da), .val (.int ea), .val (.int md), .val (.int p2), .val (.int f2), .val (.int s2), .val (.int i1), .val (.ref b2), .val (.ref b22), .val (.int (1 : Int32))] [(.ref b22)]))) (fun _ kk => XS.aload X67.here hx rfl (hb hby at_165) rfl rfl kk) ?_
          refine go_of (B := (T67.setTop (mkF m 169 #[.val (.int pa), .val (.int fa), .val (.int sa), .val (.int da), .val (.int ea), .val (.int md), .val (.int p2), .val (.int f2), .val (.int s2), .val (.int i1), .val (.ref b2), .val (.ref b22), .val (.int (1 : Int32))] [(.ref b2), (.ref b22)]))) (fun _ kk => XS.aload X67.here hx rfl (hb hby at_167) rfl rfl kk) ?_
          obtain ⟨cq68, kq68, q68a, q68b, q68c⟩ := isOf hZ e67 A46.1
          obtain ⟨_, _, ⟨T68, L68, k68, n68⟩, -, X68, ⟨Lc68, hQ68, l68, y68, z68⟩, st68⟩ := X67.virtualBack hx (y := (⟨"com/example/sure_paths/surepaths/model/ClassToExistential", "equals", "(Ljava/lang/Object;)Z"⟩ : MethodName)) (z := (⟨"com/example/sure_paths/surepaths/model/ClassToExistential", "equals", "(Ljava/lang/Object;)Z"⟩ : MethodName)) hown (mvT hZ (hw _ (List.mem_of_getElem? (i := 53) rfl))) (mvT hZ (hw _ (List.mem_of_getElem? (i := 54) rfl))) (notFace_of_selects (args := #[]) (mvT hZ (hw _ (List.mem_of_getElem? (i := 56) rfl)))) (mvT hZ (hw _ (List.mem_of_getElem? (i := 56) rfl))) (mvT hZ (hw _ (List.mem_of_getElem? (i := 55) rfl))) (by decide) (backOf (W := 0) (eq_same l Z a0 hw [] b22 b2 b24 b30 b36 b4 b8 b12 (own_s p2) (own_s f2) (own_s s2) (own_s pa) (own_s fa) (own_s sa) gC T46.heap n0 (by first | omega | exact own_ne (by omega) | exact own_le (by omega) | exact own_lt (by omega)) cf_62 SC hgC ⟨A46.1, A46.2.1, A46.2.2.1, A46.2.2.2⟩ ⟨cf_63, cf_64, cf_65, cf_66⟩ cf_59 cf_60 cf_61 cf_56 cf_57 cf_58 (fun q => absurd q (own_ne (by first | omega | exact own_ne (by omega) | exact own_le (by omega) | exact own_lt (by omega)))) (fun q => absurd q (own_ne (by first | omega | exact own_ne (by omega) | exact own_le (by omega) | exact own_lt (by omega)))) (fun q => absurd q (own_ne (by first | omega | exact own_ne (by omega) | exact own_le (by omega) | exact own_lt (by omega))))) hZ (hw _ (List.mem_of_getElem? (i := 57) rfl)) (hw _ (List.mem_of_getElem? (i := 2) rfl)) (by decide) (by decide)) q68a q68c (g := (mkF m 169 #[.val (.int pa), .val (.int fa), .val (.int sa), .val (.int da), .val (.int ea), .val (.int md), .val (.int p2), .val (.int f2), .val (.int s2), .val (.int i1), .val (.ref b2), .val (.ref b22), .val (.int (1 : Int32))] [(.ref b2), (.ref b22)])) rfl (by rw [hml]; rfl) (Steps.refl _) (argsL := [(.ref b2)]) (rest := []) (lenOf pd__Ljava_lang_Object__Z rfl) rfl (by show 2 * 0 + _ ≤ _; exact Nat.le_of_eq rfl) (hb hby at_169) (fun _ _ => ⟨rfl, e67, (by decide : 50 + 0 ≤ _), (by decide : 278 + 0 ≤ _)⟩)
          dsimp only [Pt.U, Pt.locs, Pt.cells, Pt.slots] at X68 l68 y68 z68 st68 hQ68
          subst l68 y68 z68
          obtain ⟨rfl, N68q, e68⟩ := hQ68
          have N68 := Fr.app N67 N68q
          refine go_tr (B := (T68.setTop (mkF m 172 #[.val (.int pa), .val (.int fa), .val (.int sa), .val (.int da), .val (.int ea), .val (.int md), .val (.int p2), .val (.int f2), .val (.int s2), .val (.int i1), .val (.ref b2), .val (.ref b22), .val (.int (1 : Int32))] [(.int (own_eq3 (own_s p2) (own_s pa) (own_s f2) (own_s fa) (own_s s2) (own_s sa)))]))) (st68) ?_
          refine go_of (B := (T68.setTop (mkF m 174 #[.val (.int pa), .val (.int fa), .val (.int sa), .val (.int da), .val (.int ea), .val (.int md), .val (.int p2), .val (.int f2), .val (.int s2), .val (.int i1), .val (.ref b2), .val (.ref b22), .val (.int (1 : Int32))] [(.int (1 : Int32)), (.int (own_eq3 (own_s p2) (own_s pa) (own_s f2) (own_s fa) (own_s s2) (own_s sa)))]))) (fun _ kk => XS.iload X68.here hx rfl (hb hby at_172) rfl kk) ?_
          refine go_of (B := (T68.setTop (mkF m 177 #[.val (.int pa), .val (.int fa), .val (.int sa), .val (.int da), .val (.int ea), .val (.int md), .val (.int p2), .val (.int f2), .val (.int s2), .val (.int i1), .val (.ref b2), .val (.ref b22), .val (.int (1 : Int32))] []))) (fun _ kk => XS.icmpNo X68.here hx rfl (hb hby at_174) rfl (teq (by rw [own_fin' pa fa sa p2 f2 s2]; simp only [hc49, hc52, hc55, ↓reduceIte] : (own_eq3 (own_s p2) (own_s pa) (own_s f2) (own_s fa) (own_s s2) (own_s sa)) = (1 : Int32))).2 kk) ?_
          refine go_of (B := (T68.setTop (mkF m 178 #[.val (.int pa), .val (.int fa), .val (.int sa), .val (.int da), .val (.int ea), .val (.int md), .val (.int p2), .val (.int f2), .val (.int s2), .val (.int i1), .val (.ref b2), .val (.ref b22), .val (.int (1 : Int32))] [(.int (1 : Int32))]))) (fun _ kk => XS.iconst X68.here hx rfl (hb hby at_177) kk) ?_
          refine go_of (B := (T68.setTop (mkF m 182 #[.val (.int pa), .val (.int fa), .val (.int sa), .val (.int da), .val (.int ea), .val (.int md), .val (.int p2), .val (.int f2), .val (.int s2), .val (.int i1), .val (.ref b2), .val (.ref b22), .val (.int (1 : Int32))] [(.int (1 : Int32))]))) (fun _ kk => XS.goto X68.here hx rfl (pc0 := 178) (pc' := 182) rfl (hb hby at_178) (by decide) (by decide) kk) ?_
          refine go_endH X68 hZ hEL HC46 hh0 e68 hS (by rw [e68]; omega) (v := some (.int (nar .boolean (1 : Int32)))) (fun h => by rw [hret] at h; cases h) hlk (by decide) (by decide) (Q := (Q_rm0 Z pa fa sa da ea md gC h0 n0)) ?_ (fun fs hr => retN X68 hx (t := .boolean) hret (by simp) (hb hby at_182) hr)
          show (fun (v : Option Value) (h : Heap) (L : List Loc) => v = some (.int 1) ∧ Fr n0 L) (some (.int (nar .boolean (1 : Int32)))) T68.heap _
          rw [e68]
          refine ⟨?_, N68⟩
          first | rfl | simp [own_eq3, nar]
        · refine go_of (B := (T54.setTop (mkF m 150 #[.val (.int pa), .val (.int fa), .val (.int sa), .val (.int da), .val (.int ea), .val (.int md), .val (.int p2), .val (.int f2), .val (.int s2), .val (.int i1), .val (.ref b2), .val (.ref b22), .unset] []))) (fun _ kk => XS.icmpYes X54.here hx rfl (pc0 := 143) (pc' := 150) rfl (hb hby at_143) rfl (feq hc55).2 (by decide) (by decide) kk) ?_
          refine go_of (B := (T54.setTop (mkF m 151 #[.val (.int pa), .val (.int fa), .val (.int sa), .val (.int da), .val (.int ea), .val (.int md), .val (.int p2), .val (.int f2), .val (.int s2), .val (.int i1), .val (.ref b2), .val (.ref b22), .unset] [(.int (0 : Int32))]))) (fun _ kk => XS.iconst X54.here hx rfl (hb hby at_150) kk) ?_
          refine go_of (B := (T54.setTop (mkF m 153 #[.val (.int pa), .val (.int fa), .val (.int sa), .val (.int da), .val (.int ea), .val (.int md), .val (.int p2), .val (.int f2), .val (.int s2), .val (.int i1), .val (.ref b2), .val (.ref b22), .val (.int (0 : Int32))] []))) (fun _ kk => XS.istore X54.here hx rfl (hb hby at_151) rfl rfl kk) ?_
          refine go_of (B := (T54.setTop (mkF m 155 #[.val (.int pa), .val (.int fa), .val (.int sa), .val (.int da), .val (.int ea), .val (.int md), .val (.int p2), .val (.int f2), .val (.int s2), .val (.int i1), .val (.ref b2), .val (.ref b22), .val (.int (0 : Int32))] [(.ref b2)]))) (fun _ kk => XS.aload X54.here hx rfl (hb hby at_153) rfl rfl kk) ?_
          refine go_of (B := (T54.setTop (mkF m 157 #[.val (.int pa), .val (.int fa), .val (.int sa), .val (.int da), .val (.int ea), .val (.int md), .val (.int p2), .val (.int f2), .val (.int s2), .val (.int i1), .val (.ref b2), .val (.ref b22), .val (.int (0 : Int32))] [(.ref b22), (.ref b2)]))) (fun _ kk => XS.aload X54.here hx rfl (hb hby at_155) rfl rfl kk) ?_
          have cf_69 := S4.keep (((((((((Keep.refl T4.heap [b2]).trans K8 all0).trans K12 all0).trans K20 (allS (Or.inl (List.mem_of_getElem? (i := 0) rfl)) all0)).ext E22).trans K24 all0).trans K30 all0).trans K36 all0).trans K46 (allS (Or.inr (by first | omega | exact own_ne (by omega) | exact own_le (by omega) | exact own_lt (by omega))) all0)) (allS od_6 all0)
          have cf_70 := S8.keep ((((((((Keep.refl T8.heap [b2]).trans K12 all0).trans K20 (allS (Or.inl (List.mem_of_getElem? (i := 0) rfl)) all0)).ext E22).trans K24 all0).trans K30 all0).trans K36 all0).trans K46 (allS (Or.inr (by first | omega | exact own_ne (by omega) | exact own_le (by omega) | exact own_lt (by omega))) all0)) (allS od_10 all0)
          have cf_71 := S12.keep (((((((Keep.refl T12.heap [b2]).trans K20 (allS (Or.inl (List.mem_of_getElem? (i := 0) rfl)) all0)).ext E22).trans K24 all0).trans K30 all0).trans K36 all0).trans K46 (allS (Or.inr (by first | omega | exact own_ne (by omega) | exact own_le (by omega) | exact own_lt (by omega))) all0)) (allS od_14 all0)
          have cf_72 := S24.keep ((((Keep.refl T24.heap [b22]).trans K30 all0).trans K36 all0).trans K46 (allS (Or.inl (List.mem_of_getElem? (i := 0) rfl)) all0)) (allS od_28 all0)
          have cf_73 := S30.keep (((Keep.refl T30.heap [b22]).trans K36 all0).trans K46 (allS (Or.inl (List.mem_of_getElem? (i := 0) rfl)) all0)) (allS od_34 all0)
          have cf_74 := S36.keep ((Keep.refl T36.heap [b22]).trans K46 (allS (Or.inl (List.mem_of_getElem? (i := 0) rfl)) all0)) (allS od_40 all0)
          have cf_75 := ((cf_35.keep K36 all0).keep K46 (allS (by first | omega | exact own_ne (by omega) | exact own_le (by omega) | exact own_lt (by omega)) all0))
          have cf_76 := (cf_37.keep K46)
          have cf_77 := (((((A20.2.1.ext E22).keep K24 nin0).keep K30 nin0).keep K36 nin0).keep K46 (ninS (by first | omega | exact own_ne (by omega) | exact own_le (by omega) | exact own_lt (by omega)) nin0))
          have cf_78 := (((((A20.2.2.1.ext E22).keep K24 nin0).keep K30 nin0).keep K36 nin0).keep K46 (ninS (by first | omega | exact own_ne (by omega) | exact own_le (by omega) | exact own_lt (by omega)) nin0))
          have cf_79 := (((((A20.2.2.2.ext E22).keep K24 nin0).keep K30 nin0).keep K36 nin0).keep K46 (ninS (by first | omega | exact own_ne (by omega) | exact own_le (by omega) | exact own_lt (by omega)) nin0))
          obtain ⟨cq80, kq80, q80a, q80b, q80c⟩ := isOf hZ e54 cf_76
          obtain ⟨_, _, ⟨T80, L80, k80, n80⟩, -, X80, ⟨Lc80, hQ80, l80, y80, z80⟩, st80⟩ := X54.virtualBack hx (y := (⟨"com/example/sure_paths/surepaths/model/ClassToExistential", "equals", "(Ljava/lang/Object;)Z"⟩ : MethodName)) (z := (⟨"com/example/sure_paths/surepaths/model/ClassToExistential", "equals", "(Ljava/lang/Object;)Z"⟩ : MethodName)) hown (mvT hZ (hw _ (List.mem_of_getElem? (i := 53) rfl))) (mvT hZ (hw _ (List.mem_of_getElem? (i := 54) rfl))) (notFace_of_selects (args := #[]) (mvT hZ (hw _ (List.mem_of_getElem? (i := 56) rfl)))) (mvT hZ (hw _ (List.mem_of_getElem? (i := 56) rfl))) (mvT hZ (hw _ (List.mem_of_getElem? (i := 55) rfl))) (by decide) (backOf (W := 0) (eq_same l Z a0 hw [] b2 b22 b4 b8 b12 b24 b30 b36 (own_s pa) (own_s fa) (own_s sa) (own_s p2) (own_s f2) (own_s s2) gC T46.heap n0 (by first | omega | exact own_ne (by omega) | exact own_le (by omega) | exact own_lt (by omega)) cf_75 SC hgC ⟨cf_76, cf_77, cf_78, cf_79⟩ ⟨A46.1, A46.2.1, A46.2.2.1, A46.2.2.2⟩ cf_69 cf_70 cf_71 cf_72 cf_73 cf_74 (fun q => absurd q (own_ne (by first | omega | exact own_ne (by omega) | exact own_le (by omega) | exact own_lt (by omega)))) (fun q => absurd q (own_ne (by first | omega | exact own_ne (by omega) | exact own_le (by omega) | exact own_lt (by omega)))) (fun q => absurd q (own_ne (by first | omega | exact own_ne (by omega) | exact own_le (by omega) | exact own_lt (by omega))))) hZ (hw _ (List.mem_of_getElem? (i := 57) rfl)) (hw _ (List.mem_of_getElem? (i := 2) rfl)) (by decide) (by decide)) q80a q80c (g := (mkF m 157 #[.val (.int pa), .val (.int fa), .val (.int sa), .val (.int da), .val (.int ea), .val (.int md), .val (.int p2), .val (.int f2), .val (.int s2), .val (.int i1), .val (.ref b2), .val (.ref b22), .val (.int (0 : Int32))] [(.ref b22), (.ref b2)])) rfl (by rw [hml]; rfl) (Steps.refl _) (argsL := [(.ref b22)]) (rest := []) (lenOf pd__Ljava_lang_Object__Z rfl) rfl (by show 2 * 0 + _ ≤ _; exact Nat.le_of_eq rfl) (hb hby at_157) (fun _ _ => ⟨rfl, e54, (by decide : 50 + 0 ≤ _), (by decide : 278 + 0 ≤ _)⟩)
          dsimp only [Pt.U, Pt.locs, Pt.cells, Pt.slots] at X80 l80 y80 z80 st80 hQ80
          subst l80 y80 z80
          obtain ⟨rfl, N80q, e80⟩ := hQ80
          have N80 := Fr.app N54 N80q
          refine go_tr (B := (T80.setTop (mkF m 160 #[.val (.int pa), .val (.int fa), .val (.int sa), .val (.int da), .val (.int ea), .val (.int md), .val (.int p2), .val (.int f2), .val (.int s2), .val (.int i1), .val (.ref b2), .val (.ref b22), .val (.int (0 : Int32))] [(.int (own_eq3 (own_s pa) (own_s p2) (own_s fa) (own_s f2) (own_s sa) (own_s s2)))]))) (st80) ?_
          refine go_of (B := (T80.setTop (mkF m 162 #[.val (.int pa), .val (.int fa), .val (.int sa), .val (.int da), .val (.int ea), .val (.int md), .val (.int p2), .val (.int f2), .val (.int s2), .val (.int i1), .val (.ref b2), .val (.ref b22), .val (.int (0 : Int32))] [(.int (0 : Int32)), (.int (own_eq3 (own_s pa) (own_s p2) (own_s fa) (own_s f2) (own_s sa) (own_s s2)))]))) (fun _ kk => XS.iload X80.here hx rfl (hb hby at_160) rfl kk) ?_
          refine go_of (B := (T80.setTop (mkF m 165 #[.val (.int pa), .val (.int fa), .val (.int sa), .val (.int da), .val (.int ea), .val (.int md), .val (.int p2), .val (.int f2), .val (.int s2), .val (.int i1), .val (.ref b2), .val (.ref b22), .val (.int (0 : Int32))] []))) (fun _ kk => XS.icmpNo X80.here hx rfl (hb hby at_162) rfl (teq (by rw [own_fin pa fa sa p2 f2 s2]; simp only [hc49, hc52, hc55, ↓reduceIte] : (own_eq3 (own_s pa) (own_s p2) (own_s fa) (own_s f2) (own_s sa) (own_s s2)) = (0 : Int32))).2 kk) ?_
          refine go_of (B := (T80.setTop (mkF m 167 #[.val (.int pa), .val (.int fa), .val (.int sa), .val (.int da), .val (.int ea), .val (.int md), .val (.int p2), .val (.int f2), .val (.int s2), .val (.int i1), .val (.ref b2), .val (.ref b22), .val (.int (0 : Int32))] [(.ref b22)]))) (fun _ kk => XS.aload X80.here hx rfl (hb hby at_165) rfl rfl kk) ?_
          refine go_of (B := (T80.setTop (mkF m 169 #[.val (.int pa), .val (.int fa), .val (.int sa), .val (.int da), .val (.int ea), .val (.int md), .val (.int p2), .val (.int f2), .val (.int s2), .val (.int i1), .val (.ref b2), .val (.ref b22), .val (.int (0 : Int32))] [(.ref b2), (.ref b22)]))) (fun _ kk => XS.aload X80.here hx rfl (hb hby at_167) rfl rfl kk) ?_
          obtain ⟨cq81, kq81, q81a, q81b, q81c⟩ := isOf hZ e80 A46.1
          obtain ⟨_, _, ⟨T81, L81, k81, n81⟩, -, X81, ⟨Lc81, hQ81, l81, y81, z81⟩, st81⟩ := X80.virtualBack hx (y := (⟨"com/example/sure_paths/surepaths/model/ClassToExistential", "equals", "(Ljava/lang/Object;)Z"⟩ : MethodName)) (z := (⟨"com/example/sure_paths/surepaths/model/ClassToExistential", "equals", "(Ljava/lang/Object;)Z"⟩ : MethodName)) hown (mvT hZ (hw _ (List.mem_of_getElem? (i := 53) rfl))) (mvT hZ (hw _ (List.mem_of_getElem? (i := 54) rfl))) (notFace_of_selects (args := #[]) (mvT hZ (hw _ (List.mem_of_getElem? (i := 56) rfl)))) (mvT hZ (hw _ (List.mem_of_getElem? (i := 56) rfl))) (mvT hZ (hw _ (List.mem_of_getElem? (i := 55) rfl))) (by decide) (backOf (W := 0) (eq_same l Z a0 hw [] b22 b2 b24 b30 b36 b4 b8 b12 (own_s p2) (own_s f2) (own_s s2) (own_s pa) (own_s fa) (own_s sa) gC T46.heap n0 (by first | omega | exact own_ne (by omega) | exact own_le (by omega) | exact own_lt (by omega)) cf_75 SC hgC ⟨A46.1, A46.2.1, A46.2.2.1, A46.2.2.2⟩ ⟨cf_76, cf_77, cf_78, cf_79⟩ cf_72 cf_73 cf_74 cf_69 cf_70 cf_71 (fun q => absurd q (own_ne (by first | omega | exact own_ne (by omega) | exact own_le (by omega) | exact own_lt (by omega)))) (fun q => absurd q (own_ne (by first | omega | exact own_ne (by omega) | exact own_le (by omega) | exact own_lt (by omega)))) (fun q => absurd q (own_ne (by first | omega | exact own_ne (by omega) | exact own_le (by omega) | exact own_lt (by omega))))) hZ (hw _ (List.mem_of_getElem? (i := 57) rfl)) (hw _ (List.mem_of_getElem? (i := 2) rfl)) (by decide) (by decide)) q81a q81c (g := (mkF m 169 #[.val (.int pa), .val (.int fa), .val (.int sa), .val (.int da), .val (.int ea), .val (.int md), .val (.int p2), .val (.int f2), .val (.int s2), .val (.int i1), .val (.ref b2), .val (.ref b22), .val (.int (0 : Int32))] [(.ref b2), (.ref b22)])) rfl (by rw [hml]; rfl) (Steps.refl _) (argsL := [(.ref b2)]) (rest := []) (lenOf pd__Ljava_lang_Object__Z rfl) rfl (by show 2 * 0 + _ ≤ _; exact Nat.le_of_eq rfl) (hb hby at_169) (fun _ _ => ⟨rfl, e80, (by decide : 50 + 0 ≤ _), (by decide : 278 + 0 ≤ _)⟩)
          dsimp only [Pt.U, Pt.locs, Pt.cells, Pt.slots] at X81 l81 y81 z81 st81 hQ81
          subst l81 y81 z81
          obtain ⟨rfl, N81q, e81⟩ := hQ81
          have N81 := Fr.app N80 N81q
          refine go_tr (B := (T81.setTop (mkF m 172 #[.val (.int pa), .val (.int fa), .val (.int sa), .val (.int da), .val (.int ea), .val (.int md), .val (.int p2), .val (.int f2), .val (.int s2), .val (.int i1), .val (.ref b2), .val (.ref b22), .val (.int (0 : Int32))] [(.int (own_eq3 (own_s p2) (own_s pa) (own_s f2) (own_s fa) (own_s s2) (own_s sa)))]))) (st81) ?_
          refine go_of (B := (T81.setTop (mkF m 174 #[.val (.int pa), .val (.int fa), .val (.int sa), .val (.int da), .val (.int ea), .val (.int md), .val (.int p2), .val (.int f2), .val (.int s2), .val (.int i1), .val (.ref b2), .val (.ref b22), .val (.int (0 : Int32))] [(.int (0 : Int32)), (.int (own_eq3 (own_s p2) (own_s pa) (own_s f2) (own_s fa) (own_s s2) (own_s sa)))]))) (fun _ kk => XS.iload X81.here hx rfl (hb hby at_172) rfl kk) ?_
          refine go_of (B := (T81.setTop (mkF m 177 #[.val (.int pa), .val (.int fa), .val (.int sa), .val (.int da), .val (.int ea), .val (.int md), .val (.int p2), .val (.int f2), .val (.int s2), .val (.int i1), .val (.ref b2), .val (.ref b22), .val (.int (0 : Int32))] []))) (fun _ kk => XS.icmpNo X81.here hx rfl (hb hby at_174) rfl (teq (by rw [own_fin' pa fa sa p2 f2 s2]; simp only [hc49, hc52, hc55, ↓reduceIte] : (own_eq3 (own_s p2) (own_s pa) (own_s f2) (own_s fa) (own_s s2) (own_s sa)) = (0 : Int32))).2 kk) ?_
          refine go_of (B := (T81.setTop (mkF m 178 #[.val (.int pa), .val (.int fa), .val (.int sa), .val (.int da), .val (.int ea), .val (.int md), .val (.int p2), .val (.int f2), .val (.int s2), .val (.int i1), .val (.ref b2), .val (.ref b22), .val (.int (0 : Int32))] [(.int (1 : Int32))]))) (fun _ kk => XS.iconst X81.here hx rfl (hb hby at_177) kk) ?_
          refine go_of (B := (T81.setTop (mkF m 182 #[.val (.int pa), .val (.int fa), .val (.int sa), .val (.int da), .val (.int ea), .val (.int md), .val (.int p2), .val (.int f2), .val (.int s2), .val (.int i1), .val (.ref b2), .val (.ref b22), .val (.int (0 : Int32))] [(.int (1 : Int32))]))) (fun _ kk => XS.goto X81.here hx rfl (pc0 := 178) (pc' := 182) rfl (hb hby at_178) (by decide) (by decide) kk) ?_
          refine go_endH X81 hZ hEL HC46 hh0 e81 hS (by rw [e81]; omega) (v := some (.int (nar .boolean (1 : Int32)))) (fun h => by rw [hret] at h; cases h) hlk (by decide) (by decide) (Q := (Q_rm0 Z pa fa sa da ea md gC h0 n0)) ?_ (fun fs hr => retN X81 hx (t := .boolean) hret (by simp) (hb hby at_182) hr)
          show (fun (v : Option Value) (h : Heap) (L : List Loc) => v = some (.int 1) ∧ Fr n0 L) (some (.int (nar .boolean (1 : Int32)))) T81.heap _
          rw [e81]
          refine ⟨?_, N81⟩
          first | rfl | simp [own_eq3, nar]
      · refine go_of (B := (T51.setTop (mkF m 150 #[.val (.int pa), .val (.int fa), .val (.int sa), .val (.int da), .val (.int ea), .val (.int md), .val (.int p2), .val (.int f2), .val (.int s2), .val (.int i1), .val (.ref b2), .val (.ref b22), .unset] []))) (fun _ kk => XS.icmpYes X51.here hx rfl (pc0 := 131) (pc' := 150) rfl (hb hby at_131) rfl (feq hc52).2 (by decide) (by decide) kk) ?_
        refine go_of (B := (T51.setTop (mkF m 151 #[.val (.int pa), .val (.int fa), .val (.int sa), .val (.int da), .val (.int ea), .val (.int md), .val (.int p2), .val (.int f2), .val (.int s2), .val (.int i1), .val (.ref b2), .val (.ref b22), .unset] [(.int (0 : Int32))]))) (fun _ kk => XS.iconst X51.here hx rfl (hb hby at_150) kk) ?_
        refine go_of (B := (T51.setTop (mkF m 153 #[.val (.int pa), .val (.int fa), .val (.int sa), .val (.int da), .val (.int ea), .val (.int md), .val (.int p2), .val (.int f2), .val (.int s2), .val (.int i1), .val (.ref b2), .val (.ref b22), .val (.int (0 : Int32))] []))) (fun _ kk => XS.istore X51.here hx rfl (hb hby at_151) rfl rfl kk) ?_
        refine go_of (B := (T51.setTop (mkF m 155 #[.val (.int pa), .val (.int fa), .val (.int sa), .val (.int da), .val (.int ea), .val (.int md), .val (.int p2), .val (.int f2), .val (.int s2), .val (.int i1), .val (.ref b2), .val (.ref b22), .val (.int (0 : Int32))] [(.ref b2)]))) (fun _ kk => XS.aload X51.here hx rfl (hb hby at_153) rfl rfl kk) ?_
        refine go_of (B := (T51.setTop (mkF m 157 #[.val (.int pa), .val (.int fa), .val (.int sa), .val (.int da), .val (.int ea), .val (.int md), .val (.int p2), .val (.int f2), .val (.int s2), .val (.int i1), .val (.ref b2), .val (.ref b22), .val (.int (0 : Int32))] [(.ref b22), (.ref b2)]))) (fun _ kk => XS.aload X51.here hx rfl (hb hby at_155) rfl rfl kk) ?_
        have cf_82 := S4.keep (((((((((Keep.refl T4.heap [b2]).trans K8 all0).trans K12 all0).trans K20 (allS (Or.inl (List.mem_of_getElem? (i := 0) rfl)) all0)).ext E22).trans K24 all0).trans K30 all0).trans K36 all0).trans K46 (allS (Or.inr (by first | omega | exact own_ne (by omega) | exact own_le (by omega) | exact own_lt (by omega))) all0)) (allS od_6 all0)
        have cf_83 := S8.keep ((((((((Keep.refl T8.heap [b2]).trans K12 all0).trans K20 (allS (Or.inl (List.mem_of_getElem? (i := 0) rfl)) all0)).ext E22).trans K24 all0).trans K30 all0).trans K36 all0).trans K46 (allS (Or.inr (by first | omega | exact own_ne (by omega) | exact own_le (by omega) | exact own_lt (by omega))) all0)) (allS od_10 all0)
        have cf_84 := S12.keep (((((((Keep.refl T12.heap [b2]).trans K20 (allS (Or.inl (List.mem_of_getElem? (i := 0) rfl)) all0)).ext E22).trans K24 all0).trans K30 all0).trans K36 all0).trans K46 (allS (Or.inr (by first | omega | exact own_ne (by omega) | exact own_le (by omega) | exact own_lt (by omega))) all0)) (allS od_14 all0)
        have cf_85 := S24.keep ((((Keep.refl T24.heap [b22]).trans K30 all0).trans K36 all0).trans K46 (allS (Or.inl (List.mem_of_getElem? (i := 0) rfl)) all0)) (allS od_28 all0)
        have cf_86 := S30.keep (((Keep.refl T30.heap [b22]).trans K36 all0).trans K46 (allS (Or.inl (List.mem_of_getElem? (i := 0) rfl)) all0)) (allS od_34 all0)
        have cf_87 := S36.keep ((Keep.refl T36.heap [b22]).trans K46 (allS (Or.inl (List.mem_of_getElem? (i := 0) rfl)) all0)) (allS od_40 all0)
        have cf_88 := ((cf_35.keep K36 all0).keep K46 (allS (by first | omega | exact own_ne (by omega) | exact own_le (by omega) | exact own_lt (by omega)) all0))
        have cf_89 := (cf_37.keep K46)
        have cf_90 := (((((A20.2.1.ext E22).keep K24 nin0).keep K30 nin0).keep K36 nin0).keep K46 (ninS (by first | omega | exact own_ne (by omega) | exact own_le (by omega) | exact own_lt (by omega)) nin0))
        have cf_91 := (((((A20.2.2.1.ext E22).keep K24 nin0).keep K30 nin0).keep K36 nin0).keep K46 (ninS (by first | omega | exact own_ne (by omega) | exact own_le (by omega) | exact own_lt (by omega)) nin0))
        have cf_92 := (((((A20.2.2.2.ext E22).keep K24 nin0).keep K30 nin0).keep K36 nin0).keep K46 (ninS (by first | omega | exact own_ne (by omega) | exact own_le (by omega) | exact own_lt (by omega)) nin0))
        obtain ⟨cq93, kq93, q93a, q93b, q93c⟩ := isOf hZ e51 cf_89
        obtain ⟨_, _, ⟨T93, L93, k93, n93⟩, -, X93, ⟨Lc93, hQ93, l93, y93, z93⟩, st93⟩ := X51.virtualBack hx (y := (⟨"com/example/sure_paths/surepaths/model/ClassToExistential", "equals", "(Ljava/lang/Object;)Z"⟩ : MethodName)) (z := (⟨"com/example/sure_paths/surepaths/model/ClassToExistential", "equals", "(Ljava/lang/Object;)Z"⟩ : MethodName)) hown (mvT hZ (hw _ (List.mem_of_getElem? (i := 53) rfl))) (mvT hZ (hw _ (List.mem_of_getElem? (i := 54) rfl))) (notFace_of_selects (args := #[]) (mvT hZ (hw _ (List.mem_of_getElem? (i := 56) rfl)))) (mvT hZ (hw _ (List.mem_of_getElem? (i := 56) rfl))) (mvT hZ (hw _ (List.mem_of_getElem? (i := 55) rfl))) (by decide) (backOf (W := 0) (eq_same l Z a0 hw [] b2 b22 b4 b8 b12 b24 b30 b36 (own_s pa) (own_s fa) (own_s sa) (own_s p2) (own_s f2) (own_s s2) gC T46.heap n0 (by first | omega | exact own_ne (by omega) | exact own_le (by omega) | exact own_lt (by omega)) cf_88 SC hgC ⟨cf_89, cf_90, cf_91, cf_92⟩ ⟨A46.1, A46.2.1, A46.2.2.1, A46.2.2.2⟩ cf_82 cf_83 cf_84 cf_85 cf_86 cf_87 (fun q => absurd q (own_ne (by first | omega | exact own_ne (by omega) | exact own_le (by omega) | exact own_lt (by omega)))) (fun q => absurd q (own_ne (by first | omega | exact own_ne (by omega) | exact own_le (by omega) | exact own_lt (by omega)))) (fun q => absurd q (own_ne (by first | omega | exact own_ne (by omega) | exact own_le (by omega) | exact own_lt (by omega))))) hZ (hw _ (List.mem_of_getElem? (i := 57) rfl)) (hw _ (List.mem_of_getElem? (i := 2) rfl)) (by decide) (by decide)) q93a q93c (g := (mkF m 157 #[.val (.int pa), .val (.int fa), .val (.int sa), .val (.int da), .val (.int ea), .val (.int md), .val (.int p2), .val (.int f2), .val (.int s2), .val (.int i1), .val (.ref b2), .val (.ref b22), .val (.int (0 : Int32))] [(.ref b22), (.ref b2)])) rfl (by rw [hml]; rfl) (Steps.refl _) (argsL := [(.ref b22)]) (rest := []) (lenOf pd__Ljava_lang_Object__Z rfl) rfl (by show 2 * 0 + _ ≤ _; exact Nat.le_of_eq rfl) (hb hby at_157) (fun _ _ => ⟨rfl, e51, (by decide : 50 + 0 ≤ _), (by decide : 278 + 0 ≤ _)⟩)
        dsimp only [Pt.U, Pt.locs, Pt.cells, Pt.slots] at X93 l93 y93 z93 st93 hQ93
        subst l93 y93 z93
        obtain ⟨rfl, N93q, e93⟩ := hQ93
        have N93 := Fr.app N51 N93q
        refine go_tr (B := (T93.setTop (mkF m 160 #[.val (.int pa), .val (.int fa), .val (.int sa), .val (.int da), .val (.int ea), .val (.int md), .val (.int p2), .val (.int f2), .val (.int s2), .val (.int i1), .val (.ref b2), .val (.ref b22), .val (.int (0 : Int32))] [(.int (own_eq3 (own_s pa) (own_s p2) (own_s fa) (own_s f2) (own_s sa) (own_s s2)))]))) (st93) ?_
        refine go_of (B := (T93.setTop (mkF m 162 #[.val (.int pa), .val (.int fa), .val (.int sa), .val (.int da), .val (.int ea), .val (.int md), .val (.int p2), .val (.int f2), .val (.int s2), .val (.int i1), .val (.ref b2), .val (.ref b22), .val (.int (0 : Int32))] [(.int (0 : Int32)), (.int (own_eq3 (own_s pa) (own_s p2) (own_s fa) (own_s f2) (own_s sa) (own_s s2)))]))) (fun _ kk => XS.iload X93.here hx rfl (hb hby at_160) rfl kk) ?_
        refine go_of (B := (T93.setTop (mkF m 165 #[.val (.int pa), .val (.int fa), .val (.int sa), .val (.int da), .val (.int ea), .val (.int md), .val (.int p2), .val (.int f2), .val (.int s2), .val (.int i1), .val (.ref b2), .val (.ref b22), .val (.int (0 : Int32))] []))) (fun _ kk => XS.icmpNo X93.here hx rfl (hb hby at_162) rfl (teq (by rw [own_fin pa fa sa p2 f2 s2]; simp only [hc49, hc52, ↓reduceIte] : (own_eq3 (own_s pa) (own_s p2) (own_s fa) (own_s f2) (own_s sa) (own_s s2)) = (0 : Int32))).2 kk) ?_
        refine go_of (B := (T93.setTop (mkF m 167 #[.val (.int pa), .val (.int fa), .val (.int sa), .val (.int da), .val (.int ea), .val (.int md), .val (.int p2), .val (.int f2), .val (.int s2), .val (.int i1), .val (.ref b2), .val (.ref b22), .val (.int (0 : Int32))] [(.ref b22)]))) (fun _ kk => XS.aload X93.here hx rfl (hb hby at_165) rfl rfl kk) ?_
        refine go_of (B := (T93.setTop (mkF m 169 #[.val (.int pa), .val (.int fa), .val (.int sa), .val (.int da), .val (.int ea), .val (.int md), .val (.int p2), .val (.int f2), .val (.int s2), .val (.int i1), .val (.ref b2), .val (.ref b22), .val (.int (0 : Int32))] [(.ref b2), (.ref b22)]))) (fun _ kk => XS.aload X93.here hx rfl (hb hby at_167) rfl rfl kk) ?_
        obtain ⟨cq94, kq94, q94a, q94b, q94c⟩ := isOf hZ e93 A46.1
        obtain ⟨_, _, ⟨T94, L94, k94, n94⟩, -, X94, ⟨Lc94, hQ94, l94, y94, z94⟩, st94⟩ := X93.virtualBack hx (y := (⟨"com/example/sure_paths/surepaths/model/ClassToExistential", "equals", "(Ljava/lang/Object;)Z"⟩ : MethodName)) (z := (⟨"com/example/sure_paths/surepaths/model/ClassToExistential", "equals", "(Ljava/lang/Object;)Z"⟩ : MethodName)) hown (mvT hZ (hw _ (List.mem_of_getElem? (i := 53) rfl))) (mvT hZ (hw _ (List.mem_of_getElem? (i := 54) rfl))) (notFace_of_selects (args := #[]) (mvT hZ (hw _ (List.mem_of_getElem? (i := 56) rfl)))) (mvT hZ (hw _ (List.mem_of_getElem? (i := 56) rfl))) (mvT hZ (hw _ (List.mem_of_getElem? (i := 55) rfl))) (by decide) (backOf (W := 0) (eq_same l Z a0 hw [] b22 b2 b24 b30 b36 b4 b8 b12 (own_s p2) (own_s f2) (own_s s2) (own_s pa) (own_s fa) (own_s sa) gC T46.heap n0 (by first | omega | exact own_ne (by omega) | exact own_le (by omega) | exact own_lt (by omega)) cf_88 SC hgC ⟨A46.1, A46.2.1, A46.2.2.1, A46.2.2.2⟩ ⟨cf_89, cf_90, cf_91, cf_92⟩ cf_85 cf_86 cf_87 cf_82 cf_83 cf_84 (fun q => absurd q (own_ne (by first | omega | exact own_ne (by omega) | exact own_le (by omega) | exact own_lt (by omega)))) (fun q => absurd q (own_ne (by first | omega | exact own_ne (by omega) | exact own_le (by omega) | exact own_lt (by omega)))) (fun q => absurd q (own_ne (by first | omega | exact own_ne (by omega) | exact own_le (by omega) | exact own_lt (by omega))))) hZ (hw _ (List.mem_of_getElem? (i := 57) rfl)) (hw _ (List.mem_of_getElem? (i := 2) rfl)) (by decide) (by decide)) q94a q94c (g := (mkF m 169 #[.val (.int pa), .val (.int fa), .val (.int sa), .val (.int da), .val (.int ea), .val (.int md), .val (.int p2), .val (.int f2), .val (.int s2), .val (.int i1), .val (.ref b2), .val (.ref b22), .val (.int (0 : Int32))] [(.ref b2), (.ref b22)])) rfl (by rw [hml]; rfl) (Steps.refl _) (argsL := [(.ref b2)]) (rest := []) (lenOf pd__Ljava_lang_Object__Z rfl) rfl (by show 2 * 0 + _ ≤ _; exact Nat.le_of_eq rfl) (hb hby at_169) (fun _ _ => ⟨rfl, e93, (by decide : 50 + 0 ≤ _), (by decide : 278 + 0 ≤ _)⟩)
        dsimp only [Pt.U, Pt.locs, Pt.cells, Pt.slots] at X94 l94 y94 z94 st94 hQ94
        subst l94 y94 z94
        obtain ⟨rfl, N94q, e94⟩ := hQ94
        have N94 := Fr.app N93 N94q
        refine go_tr (B := (T94.setTop (mkF m 172 #[.val (.int pa), .val (.int fa), .val (.int sa), .val (.int da), .val (.int ea), .val (.int md), .val (.int p2), .val (.int f2), .val (.int s2), .val (.int i1), .val (.ref b2), .val (.ref b22), .val (.int (0 : Int32))] [(.int (own_eq3 (own_s p2) (own_s pa) (own_s f2) (own_s fa) (own_s s2) (own_s sa)))]))) (st94) ?_
        refine go_of (B := (T94.setTop (mkF m 174 #[.val (.int pa), .val (.int fa), .val (.int sa), .val (.int da), .val (.int ea), .val (.int md), .val (.int p2), .val (.int f2), .val (.int s2), .val (.int i1), .val (.ref b2), .val (.ref b22), .val (.int (0 : Int32))] [(.int (0 : Int32)), (.int (own_eq3 (own_s p2) (own_s pa) (own_s f2) (own_s fa) (own_s s2) (own_s sa)))]))) (fun _ kk => XS.iload X94.here hx rfl (hb hby at_172) rfl kk) ?_
        refine go_of (B := (T94.setTop (mkF m 177 #[.val (.int pa), .val (.int fa), .val (.int sa), .val (.int da), .val (.int ea), .val (.int md), .val (.int p2), .val (.int f2), .val (.int s2), .val (.int i1), .val (.ref b2), .val (.ref b22), .val (.int (0 : Int32))] []))) (fun _ kk => XS.icmpNo X94.here hx rfl (hb hby at_174) rfl (teq (by rw [own_fin' pa fa sa p2 f2 s2]; simp only [hc49, hc52, ↓reduceIte] : (own_eq3 (own_s p2) (own_s pa) (own_s f2) (own_s fa) (own_s s2) (own_s sa)) = (0 : Int32))).2 kk) ?_
        refine go_of (B := (T94.setTop (mkF m 178 #[.val (.int pa), .val (.int fa), .val (.int sa), .val (.int da), .val (.int ea), .val (.int md), .val (.int p2), .val (.int f2), .val (.int s2), .val (.int i1), .val (.ref b2), .val (.ref b22), .val (.int (0 : Int32))] [(.int (1 : Int32))]))) (fun _ kk => XS.iconst X94.here hx rfl (hb hby at_177) kk) ?_
        refine go_of (B := (T94.setTop (mkF m 182 #[.val (.int pa), .val (.int fa), .val (.int sa), .val (.int da), .val (.int ea), .val (.int md), .val (.int p2), .val (.int f2), .val (.int s2), .val (.int i1), .val (.ref b2), .val (.ref b22), .val (.int (0 : Int32))] [(.int (1 : Int32))]))) (fun _ kk => XS.goto X94.here hx rfl (pc0 := 178) (pc' := 182) rfl (hb hby at_178) (by decide) (by decide) kk) ?_
        refine go_endH X94 hZ hEL HC46 hh0 e94 hS (by rw [e94]; omega) (v := some (.int (nar .boolean (1 : Int32)))) (fun h => by rw [hret] at h; cases h) hlk (by decide) (by decide) (Q := (Q_rm0 Z pa fa sa da ea md gC h0 n0)) ?_ (fun fs hr => retN X94 hx (t := .boolean) hret (by simp) (hb hby at_182) hr)
        show (fun (v : Option Value) (h : Heap) (L : List Loc) => v = some (.int 1) ∧ Fr n0 L) (some (.int (nar .boolean (1 : Int32)))) T94.heap _
        rw [e94]
        refine ⟨?_, N94⟩
        first | rfl | simp [own_eq3, nar]
    · refine go_of (B := (T48.setTop (mkF m 150 #[.val (.int pa), .val (.int fa), .val (.int sa), .val (.int da), .val (.int ea), .val (.int md), .val (.int p2), .val (.int f2), .val (.int s2), .val (.int i1), .val (.ref b2), .val (.ref b22), .unset] []))) (fun _ kk => XS.icmpYes X48.here hx rfl (pc0 := 119) (pc' := 150) rfl (hb hby at_119) rfl (feq hc49).2 (by decide) (by decide) kk) ?_
      refine go_of (B := (T48.setTop (mkF m 151 #[.val (.int pa), .val (.int fa), .val (.int sa), .val (.int da), .val (.int ea), .val (.int md), .val (.int p2), .val (.int f2), .val (.int s2), .val (.int i1), .val (.ref b2), .val (.ref b22), .unset] [(.int (0 : Int32))]))) (fun _ kk => XS.iconst X48.here hx rfl (hb hby at_150) kk) ?_
      refine go_of (B := (T48.setTop (mkF m 153 #[.val (.int pa), .val (.int fa), .val (.int sa), .val (.int da), .val (.int ea), .val (.int md), .val (.int p2), .val (.int f2), .val (.int s2), .val (.int i1), .val (.ref b2), .val (.ref b22), .val (.int (0 : Int32))] []))) (fun _ kk => XS.istore X48.here hx rfl (hb hby at_151) rfl rfl kk) ?_
      refine go_of (B := (T48.setTop (mkF m 155 #[.val (.int pa), .val (.int fa), .val (.int sa), .val (.int da), .val (.int ea), .val (.int md), .val (.int p2), .val (.int f2), .val (.int s2), .val (.int i1), .val (.ref b2), .val (.ref b22), .val (.int (0 : Int32))] [(.ref b2)]))) (fun _ kk => XS.aload X48.here hx rfl (hb hby at_153) rfl rfl kk) ?_
      refine go_of (B := (T48.setTop (mkF m 157 #[.val (.int pa), .val (.int fa), .val (.int sa), .val (.int da), .val (.int ea), .val (.int md), .val (.int p2), .val (.int f2), .val (.int s2), .val (.int i1), .val (.ref b2), .val (.ref b22), .val (.int (0 : Int32))] [(.ref b22), (.ref b2)]))) (fun _ kk => XS.aload X48.here hx rfl (hb hby at_155) rfl rfl kk) ?_
      have cf_95 := S4.keep (((((((((Keep.refl T4.heap [b2]).trans K8 all0).trans K12 all0).trans K20 (allS (Or.inl (List.mem_of_getElem? (i := 0) rfl)) all0)).ext E22).trans K24 all0).trans K30 all0).trans K36 all0).trans K46 (allS (Or.inr (by first | omega | exact own_ne (by omega) | exact own_le (by omega) | exact own_lt (by omega))) all0)) (allS od_6 all0)
      have cf_96 := S8.keep ((((((((Keep.refl T8.heap [b2]).trans K12 all0).trans K20 (allS (Or.inl (List.mem_of_getElem? (i := 0) rfl)) all0)).ext E22).trans K24 all0).trans K30 all0).trans K36 all0).trans K46 (allS (Or.inr (by first | omega | exact own_ne (by omega) | exact own_le (by omega) | exact own_lt (by omega))) all0)) (allS od_10 all0)
      have cf_97 := S12.keep (((((((Keep.refl T12.heap [b2]).trans K20 (allS (Or.inl (List.mem_of_getElem? (i := 0) rfl)) all0)).ext E22).trans K24 all0).trans K30 all0).trans K36 all0).trans K46 (allS (Or.inr (by first | omega | exact own_ne (by omega) | exact own_le (by omega) | exact own_lt (by omega))) all0)) (allS od_14 all0)
      have cf_98 := S24.keep ((((Keep.refl T24.heap [b22]).trans K30 all0).trans K36 all0).trans K46 (allS (Or.inl (List.mem_of_getElem? (i := 0) rfl)) all0)) (allS od_28 all0)
      have cf_99 := S30.keep (((Keep.refl T30.heap [b22]).trans K36 all0).trans K46 (allS (Or.inl (List.mem_of_getElem? (i := 0) rfl)) all0)) (allS od_34 all0)
      have cf_100 := S36.keep ((Keep.refl T36.heap [b22]).trans K46 (allS (Or.inl (List.mem_of_getElem? (i := 0) rfl)) all0)) (allS od_40 all0)
      have cf_101 := ((cf_35.keep K36 all0).keep K46 (allS (by first | omega | exact own_ne (by omega) | exact own_le (by omega) | exact own_lt (by omega)) all0))
      have cf_102 := (cf_37.keep K46)
      have cf_103 := (((((A20.2.1.ext E22).keep K24 nin0).keep K30 nin0).keep K36 nin0).keep K46 (ninS (by first | omega | exact own_ne (by omega) | exact own_le (by omega) | exact own_lt (by omega)) nin0))
      have cf_104 := (((((A20.2.2.1.ext E22).keep K24 nin0).keep K30 nin0).keep K36 nin0).keep K46 (ninS (by first | omega | exact own_ne (by omega) | exact own_le (by omega) | exact own_lt (by omega)) nin0))
      have cf_105 := (((((A20.2.2.2.ext E22).keep K24 nin0).keep K30 nin0).keep K36 nin0).keep K46 (ninS (by first | omega | exact own_ne (by omega) | exact own_le (by omega) | exact own_lt (by omega)) nin0))
      obtain ⟨cq106, kq106, q106a, q106b, q106c⟩ := isOf hZ e48 cf_102
      obtain ⟨_, _, ⟨T106, L106, k106, n106⟩, -, X106, ⟨Lc106, hQ106, l106, y106, z106⟩, st106⟩ := X48.virtualBack hx (y := (⟨"com/example/sure_paths/surepaths/model/ClassToExistential", "equals", "(Ljava/lang/Object;)Z"⟩ : MethodName)) (z := (⟨"com/example/sure_paths/surepaths/model/ClassToExistential", "equals", "(Ljava/lang/Object;)Z"⟩ : MethodName)) hown (mvT hZ (hw _ (List.mem_of_getElem? (i := 53) rfl))) (mvT hZ (hw _ (List.mem_of_getElem? (i := 54) rfl))) (notFace_of_selects (args := #[]) (mvT hZ (hw _ (List.mem_of_getElem? (i := 56) rfl)))) (mvT hZ (hw _ (List.mem_of_getElem? (i := 56) rfl))) (mvT hZ (hw _ (List.mem_of_getElem? (i := 55) rfl))) (by decide) (backOf (W := 0) (eq_same l Z a0 hw [] b2 b22 b4 b8 b12 b24 b30 b36 (own_s pa) (own_s fa) (own_s sa) (own_s p2) (own_s f2) (own_s s2) gC T46.heap n0 (by first | omega | exact own_ne (by omega) | exact own_le (by omega) | exact own_lt (by omega)) cf_101 SC hgC ⟨cf_102, cf_103, cf_104, cf_105⟩ ⟨A46.1, A46.2.1, A46.2.2.1, A46.2.2.2⟩ cf_95 cf_96 cf_97 cf_98 cf_99 cf_100 (fun q => absurd q (own_ne (by first | omega | exact own_ne (by omega) | exact own_le (by omega) | exact own_lt (by omega)))) (fun q => absurd q (own_ne (by first | omega | exact own_ne (by omega) | exact own_le (by omega) | exact own_lt (by omega)))) (fun q => absurd q (own_ne (by first | omega | exact own_ne (by omega) | exact own_le (by omega) | exact own_lt (by omega))))) hZ (hw _ (List.mem_of_getElem? (i := 57) rfl)) (hw _ (List.mem_of_getElem? (i := 2) rfl)) (by decide) (by decide)) q106a q106c (g := (mkF m 157 #[.val (.int pa), .val (.int fa), .val (.int sa), .val (.int da), .val (.int ea), .val (.int md), .val (.int p2), .val (.int f2), .val (.int s2), .val (.int i1), .val (.ref b2), .val (.ref b22), .val (.int (0 : Int32))] [(.ref b22), (.ref b2)])) rfl (by rw [hml]; rfl) (Steps.refl _) (argsL := [(.ref b22)]) (rest := []) (lenOf pd__Ljava_lang_Object__Z rfl) rfl (by show 2 * 0 + _ ≤ _; exact Nat.le_of_eq rfl) (hb hby at_157) (fun _ _ => ⟨rfl, e48, (by decide : 50 + 0 ≤ _), (by decide : 278 + 0 ≤ _)⟩)
      dsimp only [Pt.U, Pt.locs, Pt.cells, Pt.slots] at X106 l106 y106 z106 st106 hQ106
      subst l106 y106 z106
      obtain ⟨rfl, N106q, e106⟩ := hQ106
      have N106 := Fr.app N48 N106q
      refine go_tr (B := (T106.setTop (mkF m 160 #[.val (.int pa), .val (.int fa), .val (.int sa), .val (.int da), .val (.int ea), .val (.int md), .val (.int p2), .val (.int f2), .val (.int s2), .val (.int i1), .val (.ref b2), .val (.ref b22), .val (.int (0 : Int32))] [(.int (own_eq3 (own_s pa) (own_s p2) (own_s fa) (own_s f2) (own_s sa) (own_s s2)))]))) (st106) ?_
      refine go_of (B := (T106.setTop (mkF m 162 #[.val (.int pa), .val (.int fa), .val (.int sa), .val (.int da), .val (.int ea), .val (.int md), .val (.int p2), .val (.int f2), .val (.int s2), .val (.int i1), .val (.ref b2), .val (.ref b22), .val (.int (0 : Int32))] [(.int (0 : Int32)), (.int (own_eq3 (own_s pa) (own_s p2) (own_s fa) (own_s f2) (own_s sa) (own_s s2)))]))) (fun _ kk => XS.iload X106.here hx rfl (hb hby at_160) rfl kk) ?_
      refine go_of (B := (T106.setTop (mkF m 165 #[.val (.int pa), .val (.int fa), .val (.int sa), .val (.int da), .val (.int ea), .val (.int md), .val (.int p2), .val (.int f2), .val (.int s2), .val (.int i1), .val (.ref b2), .val (.ref b22), .val (.int (0 : Int32))] []))) (fun _ kk => XS.icmpNo X106.here hx rfl (hb hby at_162) rfl (teq (by rw [own_fin pa fa sa p2 f2 s2]; simp only [hc49, ↓reduceIte] : (own_eq3 (own_s pa) (own_s p2) (own_s fa) (own_s f2) (own_s sa) (own_s s2)) = (0 : Int32))).2 kk) ?_
      refine go_of (B := (T106.setTop (mkF m 167 #[.val (.int pa), .val (.int fa), .val (.int sa), .val (.int da), .val (.int ea), .val (.int md), .val (.int p2), .val (.int f2), .val (.int s2), .val (.int i1), .val (.ref b2), .val (.ref b22), .val (.int (0 : Int32))] [(.ref b22)]))) (fun _ kk => XS.aload X106.here hx rfl (hb hby at_165) rfl rfl kk) ?_
      refine go_of (B := (T106.setTop (mkF m 169 #[.val (.int pa), .val (.int fa), .val (.int sa), .val (.int da), .val (.int ea), .val (.int md), .val (.int p2), .val (.int f2), .val (.int s2), .val (.int i1), .val (.ref b2), .val (.ref b22), .val (.int (0 : Int32))] [(.ref b2), (.ref b22)]))) (fun _ kk => XS.aload X106.here hx rfl (hb hby at_167) rfl rfl kk) ?_
      obtain ⟨cq107, kq107, q107a, q107b, q107c⟩ := isOf hZ e106 A46.1
      obtain ⟨_, _, ⟨T107, L107, k107, n107⟩, -, X107, ⟨Lc107, hQ107, l107, y107, z107⟩, st107⟩ := X106.virtualBack hx (y := (⟨"com/example/sure_paths/surepaths/model/ClassToExistential", "equals", "(Ljava/lang/Object;)Z"⟩ : MethodName)) (z := (⟨"com/example/sure_paths/surepaths/model/ClassToExistential", "equals", "(Ljava/lang/Object;)Z"⟩ : MethodName)) hown (mvT hZ (hw _ (List.mem_of_getElem? (i := 53) rfl))) (mvT hZ (hw _ (List.mem_of_getElem? (i := 54) rfl))) (notFace_of_selects (args := #[]) (mvT hZ (hw _ (List.mem_of_getElem? (i := 56) rfl)))) (mvT hZ (hw _ (List.mem_of_getElem? (i := 56) rfl))) (mvT hZ (hw _ (List.mem_of_getElem? (i := 55) rfl))) (by decide) (backOf (W := 0) (eq_same l Z a0 hw [] b22 b2 b24 b30 b36 b4 b8 b12 (own_s p2) (own_s f2) (own_s s2) (own_s pa) (own_s fa) (own_s sa) gC T46.heap n0 (by first | omega | exact own_ne (by omega) | exact own_le (by omega) | exact own_lt (by omega)) cf_101 SC hgC ⟨A46.1, A46.2.1, A46.2.2.1, A46.2.2.2⟩ ⟨cf_102, cf_103, cf_104, cf_105⟩ cf_98 cf_99 cf_100 cf_95 cf_96 cf_97 (fun q => absurd q (own_ne (by first | omega | exact own_ne (by omega) | exact own_le (by omega) | exact own_lt (by omega)))) (fun q => absurd q (own_ne (by first | omega | exact own_ne (by omega) | exact own_le (by omega) | exact own_lt (by omega)))) (fun q => absurd q (own_ne (by first | omega | exact own_ne (by omega) | exact own_le (by omega) | exact own_lt (by omega))))) hZ (hw _ (List.mem_of_getElem? (i := 57) rfl)) (hw _ (List.mem_of_getElem? (i := 2) rfl)) (by decide) (by decide)) q107a q107c (g := (mkF m 169 #[.val (.int pa), .val (.int fa), .val (.int sa), .val (.int da), .val (.int ea), .val (.int md), .val (.int p2), .val (.int f2), .val (.int s2), .val (.int i1), .val (.ref b2), .val (.ref b22), .val (.int (0 : Int32))] [(.ref b2), (.ref b22)])) rfl (by rw [hml]; rfl) (Steps.refl _) (argsL := [(.ref b2)]) (rest := []) (lenOf pd__Ljava_lang_Object__Z rfl) rfl (by show 2 * 0 + _ ≤ _; exact Nat.le_of_eq rfl) (hb hby at_169) (fun _ _ => ⟨rfl, e106, (by decide : 50 + 0 ≤ _), (by decide : 278 + 0 ≤ _)⟩)
      dsimp only [Pt.U, Pt.locs, Pt.cells, Pt.slots] at X107 l107 y107 z107 st107 hQ107
      subst l107 y107 z107
      obtain ⟨rfl, N107q, e107⟩ := hQ107
      have N107 := Fr.app N106 N107q
      refine go_tr (B := (T107.setTop (mkF m 172 #[.val (.int pa), .val (.int fa), .val (.int sa), .val (.int da), .val (.int ea), .val (.int md), .val (.int p2), .val (.int f2), .val (.int s2), .val (.int i1), .val (.ref b2), .val (.ref b22), .val (.int (0 : Int32))] [(.int (own_eq3 (own_s p2) (own_s pa) (own_s f2) (own_s fa) (own_s s2) (own_s sa)))]))) (st107) ?_
      refine go_of (B := (T107.setTop (mkF m 174 #[.val (.int pa), .val (.int fa), .val (.int sa), .val (.int da), .val (.int ea), .val (.int md), .val (.int p2), .val (.int f2), .val (.int s2), .val (.int i1), .val (.ref b2), .val (.ref b22), .val (.int (0 : Int32))] [(.int (0 : Int32)), (.int (own_eq3 (own_s p2) (own_s pa) (own_s f2) (own_s fa) (own_s s2) (own_s sa)))]))) (fun _ kk => XS.iload X107.here hx rfl (hb hby at_172) rfl kk) ?_
      refine go_of (B := (T107.setTop (mkF m 177 #[.val (.int pa), .val (.int fa), .val (.int sa), .val (.int da), .val (.int ea), .val (.int md), .val (.int p2), .val (.int f2), .val (.int s2), .val (.int i1), .val (.ref b2), .val (.ref b22), .val (.int (0 : Int32))] []))) (fun _ kk => XS.icmpNo X107.here hx rfl (hb hby at_174) rfl (teq (by rw [own_fin' pa fa sa p2 f2 s2]; simp only [hc49, ↓reduceIte] : (own_eq3 (own_s p2) (own_s pa) (own_s f2) (own_s fa) (own_s s2) (own_s sa)) = (0 : Int32))).2 kk) ?_
      refine go_of (B := (T107.setTop (mkF m 178 #[.val (.int pa), .val (.int fa), .val (.int sa), .val (.int da), .val (.int ea), .val (.int md), .val (.int p2), .val (.int f2), .val (.int s2), .val (.int i1), .val (.ref b2), .val (.ref b22), .val (.int (0 : Int32))] [(.int (1 : Int32))]))) (fun _ kk => XS.iconst X107.here hx rfl (hb hby at_177) kk) ?_
      refine go_of (B := (T107.setTop (mkF m 182 #[.val (.int pa), .val (.int fa), .val (.int sa), .val (.int da), .val (.int ea), .val (.int md), .val (.int p2), .val (.int f2), .val (.int s2), .val (.int i1), .val (.ref b2), .val (.ref b22), .val (.int (0 : Int32))] [(.int (1 : Int32))]))) (fun _ kk => XS.goto X107.here hx rfl (pc0 := 178) (pc' := 182) rfl (hb hby at_178) (by decide) (by decide) kk) ?_
      refine go_endH X107 hZ hEL HC46 hh0 e107 hS (by rw [e107]; omega) (v := some (.int (nar .boolean (1 : Int32)))) (fun h => by rw [hret] at h; cases h) hlk (by decide) (by decide) (Q := (Q_rm0 Z pa fa sa da ea md gC h0 n0)) ?_ (fun fs hr => retN X107 hx (t := .boolean) hret (by simp) (hb hby at_182) hr)
      show (fun (v : Option Value) (h : Heap) (L : List Loc) => v = some (.int 1) ∧ Fr n0 L) (some (.int (nar .boolean (1 : Int32)))) T107.heap _
      rw [e107]
      refine ⟨?_, N107⟩
      first | rfl | simp [own_eq3, nar]
  · refine go_of (B := (T20.setTop (mkF m 183 #[.val (.int pa), .val (.int fa), .val (.int sa), .val (.int da), .val (.int ea), .val (.int md), .val (.int p2), .val (.int f2), .val (.int s2), .val (.int i1), .val (.ref b2), .unset, .unset] []))) (fun _ kk => XS.ifYes X20.here hx rfl (pc0 := 83) (pc' := 183) rfl (hb hby at_83) rfl ((if0 _ _).trans (feq hc21).2) (by decide) (by decide) kk) ?_
    refine go_of (B := (T20.setTop (mkF m 185 #[.val (.int pa), .val (.int fa), .val (.int sa), .val (.int da), .val (.int ea), .val (.int md), .val (.int p2), .val (.int f2), .val (.int s2), .val (.int i1), .val (.ref b2), .unset, .unset] [(.int i1)]))) (fun _ kk => XS.iload X20.here hx rfl (hb hby at_183) rfl kk) ?_
    refine go_of (B := (T20.setTop (mkF m 186 #[.val (.int pa), .val (.int fa), .val (.int sa), .val (.int da), .val (.int ea), .val (.int md), .val (.int p2), .val (.int f2), .val (.int s2), .val (.int i1), .val (.ref b2), .unset, .unset] [(.int (1 : Int32)), (.int i1)]))) (fun _ kk => XS.iconst X20.here hx rfl (hb hby at_185) kk) ?_
    by_cases hc108 : i1 = (1 : Int32)
    · refine go_of (B := (T20.setTop (mkF m 189 #[.val (.int pa), .val (.int fa), .val (.int sa), .val (.int da), .val (.int ea), .val (.int md), .val (.int p2), .val (.int f2), .val (.int s2), .val (.int i1), .val (.ref b2), .unset, .unset] []))) (fun _ kk => XS.icmpNo X20.here hx rfl (hb hby at_186) rfl (teq hc108).2 kk) ?_
      refine go_of (B := (T20.setTop (mkF m 191 #[.val (.int pa), .val (.int fa), .val (.int sa), .val (.int da), .val (.int ea), .val (.int md), .val (.int p2), .val (.int f2), .val (.int s2), .val (.int i1), .val (.ref b2), .unset, .unset] [(.ref b2)]))) (fun _ kk => XS.aload X20.here hx rfl (hb hby at_189) rfl rfl kk) ?_
      refine go_of (B := (T20.setTop (mkF m 193 #[.val (.int pa), .val (.int fa), .val (.int sa), .val (.int da), .val (.int ea), .val (.int md), .val (.int p2), .val (.int f2), .val (.int s2), .val (.int i1), .val (.ref b2), .unset, .unset] [(.ref b2), (.ref b2)]))) (fun _ kk => XS.aload X20.here hx rfl (hb hby at_191) rfl rfl kk) ?_
      have cf_109 := S4.keep ((((Keep.refl T4.heap [b2]).trans K8 all0).trans K12 all0).trans K20 (allS (Or.inl (List.mem_of_getElem? (i := 0) rfl)) all0)) (allS od_6 all0)
      have cf_110 := S8.keep (((Keep.refl T8.heap [b2]).trans K12 all0).trans K20 (allS (Or.inl (List.mem_of_getElem? (i := 0) rfl)) all0)) (allS od_10 all0)
      have cf_111 := S12.keep ((Keep.refl T12.heap [b2]).trans K20 (allS (Or.inl (List.mem_of_getElem? (i := 0) rfl)) all0)) (allS od_14 all0)
      have cf_112 := ((cf_11.keep K12 all0).keep K20 (allS (by first | omega | exact own_ne (by omega) | exact own_le (by omega) | exact own_lt (by omega)) all0))
      obtain ⟨cq113, kq113, q113a, q113b, q113c⟩ := isOf hZ rfl A20.1
      obtain ⟨_, _, ⟨T113, L113, k113, n113⟩, -, X113, ⟨Lc113, hQ113, l113, y113, z113⟩, st113⟩ := X20.virtualBack hx (y := (⟨"com/example/sure_paths/surepaths/model/ClassToExistential", "equals", "(Ljava/lang/Object;)Z"⟩ : MethodName)) (z := (⟨"com/example/sure_paths/surepaths/model/ClassToExistential", "equals", "(Ljava/lang/Object;)Z"⟩ : MethodName)) hown (mvT hZ (hw _ (List.mem_of_getElem? (i := 53) rfl))) (mvT hZ (hw _ (List.mem_of_getElem? (i := 54) rfl))) (notFace_of_selects (args := #[]) (mvT hZ (hw _ (List.mem_of_getElem? (i := 56) rfl)))) (mvT hZ (hw _ (List.mem_of_getElem? (i := 56) rfl))) (mvT hZ (hw _ (List.mem_of_getElem? (i := 55) rfl))) (by decide) (backOf (W := 0) (eq_same l Z a0 hw [] b2 b2 b4 b8 b12 b4 b8 b12 (own_s pa) (own_s fa) (own_s sa) (own_s pa) (own_s fa) (own_s sa) gC T20.heap n0 (by first | omega | exact own_ne (by omega) | exact own_le (by omega) | exact own_lt (by omega)) cf_112 SC hgC ⟨A20.1, A20.2.1, A20.2.2.1, A20.2.2.2⟩ ⟨A20.1, A20.2.1, A20.2.2.1, A20.2.2.2⟩ cf_109 cf_110 cf_111 cf_109 cf_110 cf_111 (fun _ => rfl) (fun _ => rfl) (fun _ => rfl)) hZ (hw _ (List.mem_of_getElem? (i := 57) rfl)) (hw _ (List.mem_of_getElem? (i := 2) rfl)) (by decide) (by decide)) q113a q113c (g := (mkF m 193 #[.val (.int pa), .val (.int fa), .val (.int sa), .val (.int da), .val (.int ea), .val (.int md), .val (.int p2), .val (.int f2), .val (.int s2), .val (.int i1), .val (.ref b2), .unset, .unset] [(.ref b2), (.ref b2)])) rfl (by rw [hml]; rfl) (Steps.refl _) (argsL := [(.ref b2)]) (rest := []) (lenOf pd__Ljava_lang_Object__Z rfl) rfl (by show 2 * 0 + _ ≤ _; exact Nat.le_of_eq rfl) (hb hby at_193) (fun _ _ => ⟨rfl, rfl, (by decide : 25 + 0 ≤ _), (by decide : 139 + 0 ≤ _)⟩)
      dsimp only [Pt.U, Pt.locs, Pt.cells, Pt.slots] at X113 l113 y113 z113 st113 hQ113
      subst l113 y113 z113
      obtain ⟨rfl, N113q, e113⟩ := hQ113
      have N113 := Fr.app N20 N113q
      refine go_tr (B := (T113.setTop (mkF m 196 #[.val (.int pa), .val (.int fa), .val (.int sa), .val (.int da), .val (.int ea), .val (.int md), .val (.int p2), .val (.int f2), .val (.int s2), .val (.int i1), .val (.ref b2), .unset, .unset] [(.int (own_eq3 (own_s pa) (own_s pa) (own_s fa) (own_s fa) (own_s sa) (own_s sa)))]))) (st113) ?_
      refine go_endH X113 hZ hEL HC20 hh0 e113 hS (by rw [e113]; omega) (v := some (.int (nar .boolean (own_eq3 (own_s pa) (own_s pa) (own_s fa) (own_s fa) (own_s sa) (own_s sa))))) (fun h => by rw [hret] at h; cases h) hlk (by decide) (by decide) (Q := (Q_rm0 Z pa fa sa da ea md gC h0 n0)) ?_ (fun fs hr => retN X113 hx (t := .boolean) hret (by simp) (hb hby at_196) hr)
      show (fun (v : Option Value) (h : Heap) (L : List Loc) => v = some (.int 1) ∧ Fr n0 L) (some (.int (nar .boolean (own_eq3 (own_s pa) (own_s pa) (own_s fa) (own_s fa) (own_s sa) (own_s sa))))) T113.heap _
      rw [e113]
      refine ⟨?_, N113⟩
      first | rfl | simp [own_eq3, nar]
    · refine go_of (B := (T20.setTop (mkF m 197 #[.val (.int pa), .val (.int fa), .val (.int sa), .val (.int da), .val (.int ea), .val (.int md), .val (.int p2), .val (.int f2), .val (.int s2), .val (.int i1), .val (.ref b2), .unset, .unset] []))) (fun _ kk => XS.icmpYes X20.here hx rfl (pc0 := 186) (pc' := 197) rfl (hb hby at_186) rfl (feq hc108).2 (by decide) (by decide) kk) ?_
      refine go_of (B := (T20.setTop (mkF m 199 #[.val (.int pa), .val (.int fa), .val (.int sa), .val (.int da), .val (.int ea), .val (.int md), .val (.int p2), .val (.int f2), .val (.int s2), .val (.int i1), .val (.ref b2), .unset, .unset] [(.int i1)]))) (fun _ kk => XS.iload X20.here hx rfl (hb hby at_197) rfl kk) ?_
      refine go_of (B := (T20.setTop (mkF m 200 #[.val (.int pa), .val (.int fa), .val (.int sa), .val (.int da), .val (.int ea), .val (.int md), .val (.int p2), .val (.int f2), .val (.int s2), .val (.int i1), .val (.ref b2), .unset, .unset] [(.int (2 : Int32)), (.int i1)]))) (fun _ kk => XS.iconst X20.here hx rfl (hb hby at_199) kk) ?_
      by_cases hc114 : i1 = (2 : Int32)
      · refine go_of (B := (T20.setTop (mkF m 203 #[.val (.int pa), .val (.int fa), .val (.int sa), .val (.int da), .val (.int ea), .val (.int md), .val (.int p2), .val (.int f2), .val (.int s2), .val (.int i1), .val (.ref b2), .unset, .unset] []))) (fun _ kk => XS.icmpNo X20.here hx rfl (hb hby at_200) rfl (teq hc114).2 kk) ?_
        refine go_of (B := (T20.setTop (mkF m 205 #[.val (.int pa), .val (.int fa), .val (.int sa), .val (.int da), .val (.int ea), .val (.int md), .val (.int p2), .val (.int f2), .val (.int s2), .val (.int i1), .val (.ref b2), .unset, .unset] [(.ref b2)]))) (fun _ kk => XS.aload X20.here hx rfl (hb hby at_203) rfl rfl kk) ?_
        refine go_of (B := (T20.setTop (mkF m 206 #[.val (.int pa), .val (.int fa), .val (.int sa), .val (.int da), .val (.int ea), .val (.int md), .val (.int p2), .val (.int f2), .val (.int s2), .val (.int i1), .val (.ref b2), .unset, .unset] [.null, (.ref b2)]))) (fun _ kk => XS.aconstNull X20.here hx rfl (hb hby at_205) kk) ?_
        obtain ⟨cq115, kq115, q115a, q115b, q115c⟩ := isOf hZ rfl A20.1
        obtain ⟨_, _, ⟨T115, L115, k115, n115⟩, -, X115, ⟨Lc115, hQ115, l115, y115, z115⟩, st115⟩ := X20.virtualBack hx (y := (⟨"com/example/sure_paths/surepaths/model/ClassToExistential", "equals", "(Ljava/lang/Object;)Z"⟩ : MethodName)) (z := (⟨"com/example/sure_paths/surepaths/model/ClassToExistential", "equals", "(Ljava/lang/Object;)Z"⟩ : MethodName)) hown (mvT hZ (hw _ (List.mem_of_getElem? (i := 53) rfl))) (mvT hZ (hw _ (List.mem_of_getElem? (i := 54) rfl))) (notFace_of_selects (args := #[]) (mvT hZ (hw _ (List.mem_of_getElem? (i := 56) rfl)))) (mvT hZ (hw _ (List.mem_of_getElem? (i := 56) rfl))) (mvT hZ (hw _ (List.mem_of_getElem? (i := 55) rfl))) (by decide) (backOf (W := 0) (eq_null l Z a0 hw [] b2 T20.heap n0 (by first | omega | exact own_ne (by omega) | exact own_le (by omega) | exact own_lt (by omega))) hZ (hw _ (List.mem_of_getElem? (i := 57) rfl)) (hw _ (List.mem_of_getElem? (i := 2) rfl)) (by decide) (by decide)) q115a q115c (g := (mkF m 206 #[.val (.int pa), .val (.int fa), .val (.int sa), .val (.int da), .val (.int ea), .val (.int md), .val (.int p2), .val (.int f2), .val (.int s2), .val (.int i1), .val (.ref b2), .unset, .unset] [.null, (.ref b2)])) rfl (by rw [hml]; rfl) (Steps.refl _) (argsL := [.null]) (rest := []) (lenOf pd__Ljava_lang_Object__Z rfl) rfl (by show 2 * 0 + _ ≤ _; exact Nat.le_of_eq rfl) (hb hby at_206) (fun _ _ => ⟨rfl, rfl, (by decide : 25 + 0 ≤ _), (by decide : 139 + 0 ≤ _)⟩)
        dsimp only [Pt.U, Pt.locs, Pt.cells, Pt.slots] at X115 l115 y115 z115 st115 hQ115
        subst l115 y115 z115
        obtain ⟨rfl, N115q, e115⟩ := hQ115
        have N115 := Fr.app N20 N115q
        refine go_tr (B := (T115.setTop (mkF m 209 #[.val (.int pa), .val (.int fa), .val (.int sa), .val (.int da), .val (.int ea), .val (.int md), .val (.int p2), .val (.int f2), .val (.int s2), .val (.int i1), .val (.ref b2), .unset, .unset] [(.int (0 : Int32))]))) (st115) ?_
        refine go_of (B := (T115.setTop (mkF m 212 #[.val (.int pa), .val (.int fa), .val (.int sa), .val (.int da), .val (.int ea), .val (.int md), .val (.int p2), .val (.int f2), .val (.int s2), .val (.int i1), .val (.ref b2), .unset, .unset] []))) (fun _ kk => XS.ifNo X115.here hx rfl (hb hby at_209) rfl ((if0 _ _).trans (teq (by decide : (0 : Int32) = (0 : Int32))).2) kk) ?_
        refine go_of (B := (T115.setTop (mkF m 213 #[.val (.int pa), .val (.int fa), .val (.int sa), .val (.int da), .val (.int ea), .val (.int md), .val (.int p2), .val (.int f2), .val (.int s2), .val (.int i1), .val (.ref b2), .unset, .unset] [(.int (1 : Int32))]))) (fun _ kk => XS.iconst X115.here hx rfl (hb hby at_212) kk) ?_
        refine go_of (B := (T115.setTop (mkF m 217 #[.val (.int pa), .val (.int fa), .val (.int sa), .val (.int da), .val (.int ea), .val (.int md), .val (.int p2), .val (.int f2), .val (.int s2), .val (.int i1), .val (.ref b2), .unset, .unset] [(.int (1 : Int32))]))) (fun _ kk => XS.goto X115.here hx rfl (pc0 := 213) (pc' := 217) rfl (hb hby at_213) (by decide) (by decide) kk) ?_
        refine go_endH X115 hZ hEL HC20 hh0 e115 hS (by rw [e115]; omega) (v := some (.int (nar .boolean (1 : Int32)))) (fun h => by rw [hret] at h; cases h) hlk (by decide) (by decide) (Q := (Q_rm0 Z pa fa sa da ea md gC h0 n0)) ?_ (fun fs hr => retN X115 hx (t := .boolean) hret (by simp) (hb hby at_217) hr)
        show (fun (v : Option Value) (h : Heap) (L : List Loc) => v = some (.int 1) ∧ Fr n0 L) (some (.int (nar .boolean (1 : Int32)))) T115.heap _
        rw [e115]
        refine ⟨?_, N115⟩
        first | rfl | simp [own_eq3, nar]
      · refine go_of (B := (T20.setTop (mkF m 218 #[.val (.int pa), .val (.int fa), .val (.int sa), .val (.int da), .val (.int ea), .val (.int md), .val (.int p2), .val (.int f2), .val (.int s2), .val (.int i1), .val (.ref b2), .unset, .unset] []))) (fun _ kk => XS.icmpYes X20.here hx rfl (pc0 := 200) (pc' := 218) rfl (hb hby at_200) rfl (feq hc114).2 (by decide) (by decide) kk) ?_
        obtain ⟨T116, h116, X116, e116, E116, A116, D116, -, st116⟩ := newO X20 hx hZ hown (hw _ (List.mem_of_getElem? (i := 71) rfl)) (hw _ (List.mem_of_getElem? (i := 72) rfl)) (hw _ (List.mem_of_getElem? (i := 73) rfl)) rfl (g := (mkF m 218 #[.val (.int pa), .val (.int fa), .val (.int sa), .val (.int da), .val (.int ea), .val (.int md), .val (.int p2), .val (.int f2), .val (.int s2), .val (.int i1), .val (.ref b2), .unset, .unset] [])) rfl (hb hby at_218) (by decide) (by decide)
        obtain ⟨b116, g116⟩ : ∃ z, z = T20.heap.size := ⟨_, rfl⟩
        rw [← g116] at A116 D116 st116
        have hi116 := own_nlt A116.lt
        have sz116 := E116.1
        have HC116 := HC20.trans (CHr.ext E116 HC20.1)
        have F116_subClass : Fld Z h116 b116 "com/example/sure_paths/surepaths/model/ClassInclusion" "subClass" "Ljava/lang/String;" .null := D116 (Or.inr (hw _ (List.mem_of_getElem? (i := 82) rfl))) (ty := (.object "java/lang/String")) (by decide)
        have F116_superClass : Fld Z h116 b116 "com/example/sure_paths/surepaths/model/ClassInclusion" "superClass" "Ljava/lang/String;" .null := D116 (Or.inr (hw _ (List.mem_of_getElem? (i := 85) rfl))) (ty := (.object "java/lang/String")) (by decide)
        refine go_of (B := (T116.setTop (mkF m 221 #[.val (.int pa), .val (.int fa), .val (.int sa), .val (.int da), .val (.int ea), .val (.int md), .val (.int p2), .val (.int f2), .val (.int s2), .val (.int i1), .val (.ref b2), .unset, .unset] [(.ref b116)]))) (st116) ?_
        refine go_of (B := (T116.setTop (mkF m 222 #[.val (.int pa), .val (.int fa), .val (.int sa), .val (.int da), .val (.int ea), .val (.int md), .val (.int p2), .val (.int f2), .val (.int s2), .val (.int i1), .val (.ref b2), .unset, .unset] [(.ref b116), (.ref b116)]))) (fun _ kk => XS.dup X116.here hx rfl (hb hby at_221) rfl rfl kk) ?_
        refine go_of (B := (T116.setTop (mkF m 223 #[.val (.int pa), .val (.int fa), .val (.int sa), .val (.int da), .val (.int ea), .val (.int md), .val (.int p2), .val (.int f2), .val (.int s2), .val (.int i1), .val (.ref b2), .unset, .unset] [(.int pa), (.ref b116), (.ref b116)]))) (fun _ kk => XS.iloadN X116.here hx rfl (hb hby at_222) rfl kk) ?_
        have cf_117 := (((cf_11.keep K12 all0).keep K20 (allS (by first | omega | exact own_ne (by omega) | exact own_le (by omega) | exact own_lt (by omega)) all0)).ext E116)
        obtain ⟨_, _, ⟨T118, L118, k118, n118⟩, -, X118', hS118', gr118, ⟨Lc118, hQ118, l118, y118, z118, HR118⟩, st118⟩ := callSS X116 hx (y := (⟨"com/example/sure_paths/surepaths/model/ClassToExistentialEqualsPinLaw", "str", "(I)Ljava/lang/String;"⟩ : MethodName)) hown (mvT hZ (hw _ (List.mem_of_getElem? (i := 3) rfl))) (mvT hZ (hw _ (List.mem_of_getElem? (i := 4) rfl))) (mvT hZ (hw _ (List.mem_of_getElem? (i := 5) rfl))) (mvT hZ (hw _ (List.mem_of_getElem? (i := 6) rfl))) (by decide) (backOfSH (W := 2) (rm1 l Z a0 hw [] pa gC h116 n0 (by first | omega | exact own_ne (by omega) | exact own_le (by omega) | exact own_lt (by omega)) cf_117 SC hgC) hZ (hw _ (List.mem_of_getElem? (i := 6) rfl)) (hw _ (List.mem_of_getElem? (i := 5) rfl)) (by decide) (by decide) hEL HC116.1) (g := (mkF m 223 #[.val (.int pa), .val (.int fa), .val (.int sa), .val (.int da), .val (.int ea), .val (.int md), .val (.int p2), .val (.int f2), .val (.int s2), .val (.int i1), .val (.ref b2), .unset, .unset] [(.int pa), (.ref b116), (.ref b116)])) rfl (by rw [hml]; rfl) (argsL := [(.int pa)]) (rest := [(.ref b116), (.ref b116)]) (lenOf pd__I_Ljava_lang_String_ rfl) rfl (by show 2 * 0 + _ ≤ _; exact Nat.le_of_eq rfl) (hb hby at_223) (fun _ _ => ⟨rfl, e116, (by decide : 26 + 6 ≤ _), (by decide : 141 + 12 ≤ _)⟩)
        dsimp only [Pt.U, Pt.locs, Pt.cells, Pt.slots] at X118' hS118' gr118 l118 y118 z118 st118 hQ118 HR118
        subst l118 y118 z118
        have X118 : Stand _ _ _ _ (s.setVm T118.vm) _ _ _ _ _ T118 _ _ _ := X118'
        have hS : s.Since T118.vm T118.heap.size := foldS hS (by rw [e116]; omega) hS118' gr118
        have hZ : Z.Warmed39 (s.setVm T118.vm).vm := State.Warmed39.trans (t := s.setVm T20.vm) hZ hS118'.1
        have hown : (s.setVm T118.vm).vm.findClass "com/example/sure_paths/surepaths/model/ClassToExistentialEqualsPinLaw" = some m.cls := by rw [show (s.setVm T118.vm).vm = T118.vm from rfl, hS118'.1.alike.findClass]; exact hown
        obtain ⟨b118, rfl, N118q, lo118, K118, S118⟩ := hQ118
        have lo118 := own_nle lo118
        have N118 := Fr.app N20 N118q
        have hi118 := own_nlt (S118.exa.lt)
        have sz118 := K118.1
        have HC118 := HC116.trans HR118
        have cf_119 := ((A20.1.ext E116).keep K118)
        have od_120 := Ord.of cf_119 (hw _ (List.mem_of_getElem? (i := 1) rfl)) (by decide)
        have cf_121 := (A116.keep K118)
        have od_122 := Ord.of cf_121 (hw _ (List.mem_of_getElem? (i := 72) rfl)) (by decide)
        refine go_tr (B := (T118.setTop (mkF m 226 #[.val (.int pa), .val (.int fa), .val (.int sa), .val (.int da), .val (.int ea), .val (.int md), .val (.int p2), .val (.int f2), .val (.int s2), .val (.int i1), .val (.ref b2), .unset, .unset] [(.ref b118), (.ref b116), (.ref b116)]))) (st118) ?_
        refine go_of (B := (T118.setTop (mkF m 227 #[.val (.int pa), .val (.int fa), .val (.int sa), .val (.int da), .val (.int ea), .val (.int md), .val (.int p2), .val (.int f2), .val (.int s2), .val (.int i1), .val (.ref b2), .unset, .unset] [(.int sa), (.ref b118), (.ref b116), (.ref b116)]))) (fun _ kk => XS.iloadN X118.here hx rfl (hb hby at_226) rfl kk) ?_
        have cf_123 := (cf_117.keep K118 all0)
        obtain ⟨_, _, ⟨T124, L124, k124, n124⟩, -, X124', hS124', gr124, ⟨Lc124, hQ124, l124, y124, z124, HR124⟩, st124⟩ := callSS X118 hx (y := (⟨"com/example/sure_paths/surepaths/model/ClassToExistentialEqualsPinLaw", "str", "(I)Ljava/lang/String;"⟩ : MethodName)) hown (mvT hZ (hw _ (List.mem_of_getElem? (i := 3) rfl))) (mvT hZ (hw _ (List.mem_of_getElem? (i := 4) rfl))) (mvT hZ (hw _ (List.mem_of_getElem? (i := 5) rfl))) (mvT hZ (hw _ (List.mem_of_getElem? (i := 6) rfl))) (by decide) (backOfSH (W := 3) (rm1 l Z a0 hw [] sa gC T118.heap n0 (by first | omega | exact own_ne (by omega) | exact own_le (by omega) | exact own_lt (by omega)) cf_123 SC hgC) hZ (hw _ (List.mem_of_getElem? (i := 6) rfl)) (hw _ (List.mem_of_getElem? (i := 5) rfl)) (by decide) (by decide) hEL HC118.1) (g := (mkF m 227 #[.val (.int pa), .val (.int fa), .val (.int sa), .val (.int da), .val (.int ea), .val (.int md), .val (.int p2), .val (.int f2), .val (.int s2), .val (.int i1), .val (.ref b2), .unset, .unset] [(.int sa), (.ref b118), (.ref b116), (.ref b116)])) rfl (by rw [hml]; rfl) (argsL := [(.int sa)]) (rest := [(.ref b118), (.ref b116), (.ref b116)]) (lenOf pd__I_Ljava_lang_String_ rfl) rfl (by show 2 * 0 + _ ≤ _; exact Nat.le_of_eq rfl) (hb hby at_227) (fun _ _ => ⟨rfl, rfl, (by decide : 32 + 6 ≤ _), (by decide : 153 + 12 ≤ _)⟩)
        dsimp only [Pt.U, Pt.locs, Pt.cells, Pt.slots] at X124' hS124' gr124 l124 y124 z124 st124 hQ124 HR124
        subst l124 y124 z124
        have X124 : Stand _ _ _ _ (s.setVm T124.vm) _ _ _ _ _ T124 _ _ _ := X124'
        have hS : s.Since T124.vm T124.heap.size := foldS hS (by first | omega | exact own_ne (by omega) | exact own_le (by omega) | exact own_lt (by omega)) hS124' gr124
        have hZ : Z.Warmed39 (s.setVm T124.vm).vm := State.Warmed39.trans (t := s.setVm T118.vm) hZ hS124'.1
        have hown : (s.setVm T124.vm).vm.findClass "com/example/sure_paths/surepaths/model/ClassToExistentialEqualsPinLaw" = some m.cls := by rw [show (s.setVm T124.vm).vm = T124.vm from rfl, hS124'.1.alike.findClass]; exact hown
        obtain ⟨b124, rfl, N124q, lo124, K124, S124⟩ := hQ124
        have lo124 := own_nle lo124
        have N124 := Fr.app N118 N124q
        have hi124 := own_nlt (S124.exa.lt)
        have sz124 := K124.1
        have HC124 := HC118.trans HR124
        have cf_125 := (cf_119.keep K124)
        have od_126 := Ord.of cf_125 (hw _ (List.mem_of_getElem? (i := 1) rfl)) (by decide)
        have cf_127 := (cf_121.keep K124)
        have od_128 := Ord.of cf_127 (hw _ (List.mem_of_getElem? (i := 72) rfl)) (by decide)
        refine go_tr (B := (T124.setTop (mkF m 230 #[.val (.int pa), .val (.int fa), .val (.int sa), .val (.int da), .val (.int ea), .val (.int md), .val (.int p2), .val (.int f2), .val (.int s2), .val (.int i1), .val (.ref b2), .unset, .unset] [(.ref b124), (.ref b118), (.ref b116), (.ref b116)]))) (st124) ?_
        have cf_129 := ((F116_subClass.keep K118 nin0).keep K124 nin0)
        have cf_130 := ((F116_superClass.keep K118 nin0).keep K124 nin0)
        have cf_131 := (S118.exa.keep K124)
        obtain ⟨_, _, ⟨T132, L132, k132, n132⟩, -, X132', hS132', gr132, ⟨Lc132, hQ132, l132, y132, z132, HR132⟩, st132⟩ := X124.specialBackS hx (y := (⟨"com/example/sure_paths/surepaths/model/ClassInclusion", "<init>", "(Ljava/lang/String;Ljava/lang/String;)V"⟩ : MethodName)) rfl hown (mvT hZ (hw _ (List.mem_of_getElem? (i := 74) rfl))) (mvT hZ (hw _ (List.mem_of_getElem? (i := 75) rfl))) (mvT hZ (hw _ (List.mem_of_getElem? (i := 76) rfl))) (by decide) (backOfSH (W := 1) (rm12 l Z a0 hw [] b116 b118 b124 _ _ T124.heap n0 (by first | omega | exact own_ne (by omega) | exact own_le (by omega) | exact own_lt (by omega)) cf_127 cf_129 cf_130 (by first | omega | exact own_ne (by omega) | exact own_le (by omega) | exact own_lt (by omega)) cf_131 S124.exa) hZ (hw _ (List.mem_of_getElem? (i := 76) rfl)) (hw _ (List.mem_of_getElem? (i := 73) rfl)) (by decide) (by decide) hEL HC124.1) (g := (mkF m 230 #[.val (.int pa), .val (.int fa), .val (.int sa), .val (.int da), .val (.int ea), .val (.int md), .val (.int p2), .val (.int f2), .val (.int s2), .val (.int i1), .val (.ref b2), .unset, .unset] [(.ref b124), (.ref b118), (.ref b116), (.ref b116)])) rfl (by rw [hml]; rfl) (Steps.refl _) (a := b116) (argsL := [(.ref b118), (.ref b124)]) (rest := [(.ref b116)]) (lenOf pd__Ljava_lang_String_Ljava_lang_String__V rfl) rfl (by show 2 * 0 + _ ≤ _; exact Nat.le_of_eq rfl) (hb hby at_230) (fun _ _ => ⟨rfl, rfl, (by decide : 38 + 4 ≤ _), (by decide : 165 + 80 ≤ _)⟩)
        dsimp only [Pt.U, Pt.locs, Pt.cells, Pt.slots] at X132' hS132' gr132 l132 y132 z132 st132 hQ132 HR132
        subst l132 y132 z132
        have X132 : Stand _ _ _ _ (s.setVm T132.vm) _ _ _ _ _ T132 _ _ _ := X132'
        have hS : s.Since T132.vm T132.heap.size := foldS hS (by first | omega | exact own_ne (by omega) | exact own_le (by omega) | exact own_lt (by omega)) hS132' gr132
        have hZ : Z.Warmed39 (s.setVm T132.vm).vm := State.Warmed39.trans (t := s.setVm T124.vm) hZ hS132'.1
        have hown : (s.setVm T132.vm).vm.findClass "com/example/sure_paths/surepaths/model/ClassToExistentialEqualsPinLaw" = some m.cls := by rw [show (s.setVm T132.vm).vm = T132.vm from rfl, hS132'.1.alike.findClass]; exact hown
        obtain ⟨rfl, N132q, K132, A132⟩ := hQ132
        have N132 := Fr.app N124 N132q
        have sz132 := K132.1
        have HC132 := HC124.trans HR132
        refine go_tr (B := (T132.setTop (mkF m 233 #[.val (.int pa), .val (.int fa), .val (.int sa), .val (.int da), .val (.int ea), .val (.int md), .val (.int p2), .val (.int f2), .val (.int s2), .val (.int i1), .val (.ref b2), .unset, .unset] [(.ref b116)]))) (st132) ?_
        refine go_of (B := (T132.setTop (mkF m 235 #[.val (.int pa), .val (.int fa), .val (.int sa), .val (.int da), .val (.int ea), .val (.int md), .val (.int p2), .val (.int f2), .val (.int s2), .val (.int i1), .val (.ref b2), .val (.ref b116), .unset] []))) (fun _ kk => XS.astore X132.here hx rfl (hb hby at_233) rfl rfl rfl kk) ?_
        refine go_of (B := (T132.setTop (mkF m 237 #[.val (.int pa), .val (.int fa), .val (.int sa), .val (.int da), .val (.int ea), .val (.int md), .val (.int p2), .val (.int f2), .val (.int s2), .val (.int i1), .val (.ref b2), .val (.ref b116), .unset] [(.ref b2)]))) (fun _ kk => XS.aload X132.here hx rfl (hb hby at_235) rfl rfl kk) ?_
        refine go_of (B := (T132.setTop (mkF m 239 #[.val (.int pa), .val (.int fa), .val (.int sa), .val (.int da), .val (.int ea), .val (.int md), .val (.int p2), .val (.int f2), .val (.int s2), .val (.int i1), .val (.ref b2), .val (.ref b116), .unset] [(.ref b116), (.ref b2)]))) (fun _ kk => XS.aload X132.here hx rfl (hb hby at_237) rfl rfl kk) ?_
        have cf_134 := (cf_125.keep K132)
        obtain ⟨cq133, kq133, q133a, q133b, q133c⟩ := isOf hZ rfl cf_134
        obtain ⟨_, _, ⟨T133, L133, k133, n133⟩, -, X133, ⟨Lc133, hQ133, l133, y133, z133⟩, st133⟩ := X132.virtualBack hx (y := (⟨"com/example/sure_paths/surepaths/model/ClassToExistential", "equals", "(Ljava/lang/Object;)Z"⟩ : MethodName)) (z := (⟨"com/example/sure_paths/surepaths/model/ClassToExistential", "equals", "(Ljava/lang/Object;)Z"⟩ : MethodName)) hown (mvT hZ (hw _ (List.mem_of_getElem? (i := 53) rfl))) (mvT hZ (hw _ (List.mem_of_getElem? (i := 54) rfl))) (notFace_of_selects (args := #[]) (mvT hZ (hw _ (List.mem_of_getElem? (i := 56) rfl)))) (mvT hZ (hw _ (List.mem_of_getElem? (i := 56) rfl))) (mvT hZ (hw _ (List.mem_of_getElem? (i := 55) rfl))) (by decide) (backOf (W := 0) (eq_other l Z a0 hw [] b2 b116 T132.heap n0 (by first | omega | exact own_ne (by omega) | exact own_le (by omega) | exact own_lt (by omega)) A132.1) hZ (hw _ (List.mem_of_getElem? (i := 57) rfl)) (hw _ (List.mem_of_getElem? (i := 2) rfl)) (by decide) (by decide)) q133a q133c (g := (mkF m 239 #[.val (.int pa), .val (.int fa), .val (.int sa), .val (.int da), .val (.int ea), .val (.int md), .val (.int p2), .val (.int f2), .val (.int s2), .val (.int i1), .val (.ref b2), .val (.ref b116), .unset] [(.ref b116), (.ref b2)])) rfl (by rw [hml]; rfl) (Steps.refl _) (argsL := [(.ref b116)]) (rest := []) (lenOf pd__Ljava_lang_Object__Z rfl) rfl (by show 2 * 0 + _ ≤ _; exact Nat.le_of_eq rfl) (hb hby at_239) (fun _ _ => ⟨rfl, rfl, (by decide : 42 + 0 ≤ _), (by decide : 245 + 0 ≤ _)⟩)
        dsimp only [Pt.U, Pt.locs, Pt.cells, Pt.slots] at X133 l133 y133 z133 st133 hQ133
        subst l133 y133 z133
        obtain ⟨rfl, N133q, e133⟩ := hQ133
        have N133 := Fr.app N132 N133q
        refine go_tr (B := (T133.setTop (mkF m 242 #[.val (.int pa), .val (.int fa), .val (.int sa), .val (.int da), .val (.int ea), .val (.int md), .val (.int p2), .val (.int f2), .val (.int s2), .val (.int i1), .val (.ref b2), .val (.ref b116), .unset] [(.int (0 : Int32))]))) (st133) ?_
        refine go_of (B := (T133.setTop (mkF m 245 #[.val (.int pa), .val (.int fa), .val (.int sa), .val (.int da), .val (.int ea), .val (.int md), .val (.int p2), .val (.int f2), .val (.int s2), .val (.int i1), .val (.ref b2), .val (.ref b116), .unset] []))) (fun _ kk => XS.ifNo X133.here hx rfl (hb hby at_242) rfl ((if0 _ _).trans (teq (by decide : (0 : Int32) = (0 : Int32))).2) kk) ?_
        refine go_of (B := (T133.setTop (mkF m 246 #[.val (.int pa), .val (.int fa), .val (.int sa), .val (.int da), .val (.int ea), .val (.int md), .val (.int p2), .val (.int f2), .val (.int s2), .val (.int i1), .val (.ref b2), .val (.ref b116), .unset] [(.int (1 : Int32))]))) (fun _ kk => XS.iconst X133.here hx rfl (hb hby at_245) kk) ?_
        refine go_of (B := (T133.setTop (mkF m 250 #[.val (.int pa), .val (.int fa), .val (.int sa), .val (.int da), .val (.int ea), .val (.int md), .val (.int p2), .val (.int f2), .val (.int s2), .val (.int i1), .val (.ref b2), .val (.ref b116), .unset] [(.int (1 : Int32))]))) (fun _ kk => XS.goto X133.here hx rfl (pc0 := 246) (pc' := 250) rfl (hb hby at_246) (by decide) (by decide) kk) ?_
        refine go_endH X133 hZ hEL HC132 hh0 e133 hS (by rw [e133]; omega) (v := some (.int (nar .boolean (1 : Int32)))) (fun h => by rw [hret] at h; cases h) hlk (by decide) (by decide) (Q := (Q_rm0 Z pa fa sa da ea md gC h0 n0)) ?_ (fun fs hr => retN X133 hx (t := .boolean) hret (by simp) (hb hby at_250) hr)
        show (fun (v : Option Value) (h : Heap) (L : List Loc) => v = some (.int 1) ∧ Fr n0 L) (some (.int (nar .boolean (1 : Int32)))) T133.heap _
        rw [e133]
        refine ⟨?_, N133⟩
        first | rfl | simp [own_eq3, nar]
theorem ef_rm0 (m : MethodId) (pa : Int32) (fa : Int32) (sa : Int32) (da : Int32) (ea : Int32) (md : Int32)  : entryFrame m #[(.int pa), (.int fa), (.int sa), (.int da), (.int ea), (.int md)] maxLocals = mkF m 0 #[.val (.int pa), .val (.int fa), .val (.int sa), .val (.int da), .val (.int ea), .val (.int md), .unset, .unset, .unset, .unset, .unset, .unset, .unset] [] := by first | (simp [entryFrame, mkF, argsToLocals, Value.category, maxLocals]; done) | rfl
set_option maxRecDepth 65536 in
set_option maxHeartbeats 40000000 in
theorem rm0 (l : Launch) (Z : State) (a0 : Array Value) (hw : ∀ d ∈ tables_1, d.before a0 Z = true) (ws : List Jvm.Cond) (pa : Int32) (fa : Int32) (sa : Int32) (da : Int32) (ea : Int32) (md : Int32) (gC : Int32) (h0 : Heap) (n0 : Nat) (Z0 : n0 ≤ h0.size) (O : Old Z n0 h0) (SC : Sta Z Z.heap "java/lang/String" "COMPACT_STRINGS" "Z" (.int gC)) (hgC : ¬ gC = (0 : Int32)) :
    MetFree l x (head1 (Jvm.Cond.code x code maxLocals ret :: ws) room_1) (fun aa' U1' => aa' = #[(.int pa), (.int fa), (.int sa), (.int da), (.int ea), (.int md)] ∧ Z.Warmed39 U1'.vm ∧ U1'.heap = h0 ∧ CHv Z own_EL U1'.vm h0) (fun _ _ _ _ _ => True) (fun _ U1' oo' U2' => ∃ vv' LL', oo' = .returned vv' ∧ (Q_rm0 Z pa fa sa da ea md gC h0 n0) vv' U2'.heap LL' ∧ CHr Z own_EL U1'.vm U1'.heap U2'.vm U2'.heap ∧ ReturnedEndW U1' oo' U2' LL' room_1.cells room_1.slots) := by
  refine MetFree.of_bodySF (plainFor_of_name pn_com_example_sure_paths_surepaths_model_ClassToExistentialEqualsPinLaw) hisR ?_
  intro p e s m args below meth c s₁ Bd hml0 hP hK
  obtain ⟨rfl, hZ, hh, hCH⟩ := hP
  have hx := Bd.exec
  have hby := Bd.bytes
  have hml : c.maxLocals = 13 := hml0
  have hown : s.vm.findClass "com/example/sure_paths/surepaths/model/ClassToExistentialEqualsPinLaw" = some m.cls := findClass_of_methodNamed Bd.named
  have hnm := (name_of_methodNamed Bd.named Bd.method).1
  have X0 : Stand p l e room_1 (s.setVm s.vm) m #[(.int pa), (.int fa), (.int sa), (.int da), (.int ea), (.int md)] below meth c s₁ [] 0 0 := Stand.of_body Bd
  have e0 : s₁.heap = h0 := by rw [← hh, Bd.state]; rfl
  have N0 := Fr.nil n0
  have hS : s.Since s.vm 0 := (State.WarmedH.refl s).since 0
  have hh0 := hh
  have hEL := own_EW hw
  have HC0 := CHr.refl hCH
  refine go_of (A := s₁.setTop (entryFrame m #[(.int pa), (.int fa), (.int sa), (.int da), (.int ea), (.int md)] maxLocals)) (B := s₁.setTop (mkF m 0 #[.val (.int pa), .val (.int fa), .val (.int sa), .val (.int da), .val (.int ea), .val (.int md), .unset, .unset, .unset, .unset, .unset, .unset, .unset] [])) (fun _ kk' => castTop (ef_rm0 m pa fa sa da ea md) kk') ?_
  refine go_of (B := (s₁.setTop (mkF m 2 #[.val (.int pa), .val (.int fa), .val (.int sa), .val (.int da), .val (.int ea), .val (.int md), .unset, .unset, .unset, .unset, .unset, .unset, .unset] [(.int md)]))) (fun _ kk => XS.iload X0.here hx rfl (hb hby at_0) rfl kk) ?_
  refine go_of (B := (s₁.setTop (mkF m 3 #[.val (.int pa), .val (.int fa), .val (.int sa), .val (.int da), .val (.int ea), .val (.int md), .unset, .unset, .unset, .unset, .unset, .unset, .unset] [(.int (1 : Int32)), (.int md)]))) (fun _ kk => XS.iconst X0.here hx rfl (hb hby at_2) kk) ?_
  refine go_of (B := (s₁.setTop (mkF m 4 #[.val (.int pa), .val (.int fa), .val (.int sa), .val (.int da), .val (.int ea), .val (.int md), .unset, .unset, .unset, .unset, .unset, .unset, .unset] [(.int (md &&& (1 : Int32)))]))) (fun _ kk => XS.iand X0.here hx rfl (hb hby at_3) rfl kk) ?_
  by_cases hc135 : (md &&& (1 : Int32)) = (0 : Int32)
  · refine go_of (B := (s₁.setTop (mkF m 11 #[.val (.int pa), .val (.int fa), .val (.int sa), .val (.int da), .val (.int ea), .val (.int md), .unset, .unset, .unset, .unset, .unset, .unset, .unset] []))) (fun _ kk => XS.ifYes X0.here hx rfl (pc0 := 4) (pc' := 11) rfl (hb hby at_4) rfl ((if0 _ _).trans (teq hc135).1) (by decide) (by decide) kk) ?_
    refine go_of (B := (s₁.setTop (mkF m 12 #[.val (.int pa), .val (.int fa), .val (.int sa), .val (.int da), .val (.int ea), .val (.int md), .unset, .unset, .unset, .unset, .unset, .unset, .unset] [(.int pa)]))) (fun _ kk => XS.iloadN X0.here hx rfl (hb hby at_11) rfl kk) ?_
    refine go_of (B := (s₁.setTop (mkF m 13 #[.val (.int pa), .val (.int fa), .val (.int sa), .val (.int da), .val (.int ea), .val (.int md), .unset, .unset, .unset, .unset, .unset, .unset, .unset] [(.int da), (.int pa)]))) (fun _ kk => XS.iloadN X0.here hx rfl (hb hby at_12) rfl kk) ?_
    refine go_of (B := (s₁.setTop (mkF m 14 #[.val (.int pa), .val (.int fa), .val (.int sa), .val (.int da), .val (.int ea), .val (.int md), .unset, .unset, .unset, .unset, .unset, .unset, .unset] [(.int (pa ^^^ da))]))) (fun _ kk => XS.ixor X0.here hx rfl (hb hby at_13) rfl kk) ?_
    refine go_of (B := (s₁.setTop (mkF m 16 #[.val (.int pa), .val (.int fa), .val (.int sa), .val (.int da), .val (.int ea), .val (.int md), .val (.int (pa ^^^ da)), .unset, .unset, .unset, .unset, .unset, .unset] []))) (fun _ kk => XS.istore X0.here hx rfl (hb hby at_14) rfl rfl kk) ?_
    refine go_of (B := (s₁.setTop (mkF m 18 #[.val (.int pa), .val (.int fa), .val (.int sa), .val (.int da), .val (.int ea), .val (.int md), .val (.int (pa ^^^ da)), .unset, .unset, .unset, .unset, .unset, .unset] [(.int md)]))) (fun _ kk => XS.iload X0.here hx rfl (hb hby at_16) rfl kk) ?_
    refine go_of (B := (s₁.setTop (mkF m 19 #[.val (.int pa), .val (.int fa), .val (.int sa), .val (.int da), .val (.int ea), .val (.int md), .val (.int (pa ^^^ da)), .unset, .unset, .unset, .unset, .unset, .unset] [(.int (2 : Int32)), (.int md)]))) (fun _ kk => XS.iconst X0.here hx rfl (hb hby at_18) kk) ?_
    refine go_of (B := (s₁.setTop (mkF m 20 #[.val (.int pa), .val (.int fa), .val (.int sa), .val (.int da), .val (.int ea), .val (.int md), .val (.int (pa ^^^ da)), .unset, .unset, .unset, .unset, .unset, .unset] [(.int (md &&& (2 : Int32)))]))) (fun _ kk => XS.iand X0.here hx rfl (hb hby at_19) rfl kk) ?_
    by_cases hc136 : (md &&& (2 : Int32)) = (0 : Int32)
    · refine go_of (B := (s₁.setTop (mkF m 27 #[.val (.int pa), .val (.int fa), .val (.int sa), .val (.int da), .val (.int ea), .val (.int md), .val (.int (pa ^^^ da)), .unset, .unset, .unset, .unset, .unset, .unset] []))) (fun _ kk => XS.ifYes X0.here hx rfl (pc0 := 20) (pc' := 27) rfl (hb hby at_20) rfl ((if0 _ _).trans (teq hc136).1) (by decide) (by decide) kk) ?_
      refine go_of (B := (s₁.setTop (mkF m 28 #[.val (.int pa), .val (.int fa), .val (.int sa), .val (.int da), .val (.int ea), .val (.int md), .val (.int (pa ^^^ da)), .unset, .unset, .unset, .unset, .unset, .unset] [(.int fa)]))) (fun _ kk => XS.iloadN X0.here hx rfl (hb hby at_27) rfl kk) ?_
      refine go_of (B := (s₁.setTop (mkF m 30 #[.val (.int pa), .val (.int fa), .val (.int sa), .val (.int da), .val (.int ea), .val (.int md), .val (.int (pa ^^^ da)), .unset, .unset, .unset, .unset, .unset, .unset] [(.int ea), (.int fa)]))) (fun _ kk => XS.iload X0.here hx rfl (hb hby at_28) rfl kk) ?_
      refine go_of (B := (s₁.setTop (mkF m 31 #[.val (.int pa), .val (.int fa), .val (.int sa), .val (.int da), .val (.int ea), .val (.int md), .val (.int (pa ^^^ da)), .unset, .unset, .unset, .unset, .unset, .unset] [(.int (fa ^^^ ea))]))) (fun _ kk => XS.ixor X0.here hx rfl (hb hby at_30) rfl kk) ?_
      refine go_of (B := (s₁.setTop (mkF m 33 #[.val (.int pa), .val (.int fa), .val (.int sa), .val (.int da), .val (.int ea), .val (.int md), .val (.int (pa ^^^ da)), .val (.int (fa ^^^ ea)), .unset, .unset, .unset, .unset, .unset] []))) (fun _ kk => XS.istore X0.here hx rfl (hb hby at_31) rfl rfl kk) ?_
      refine go_of (B := (s₁.setTop (mkF m 35 #[.val (.int pa), .val (.int fa), .val (.int sa), .val (.int da), .val (.int ea), .val (.int md), .val (.int (pa ^^^ da)), .val (.int (fa ^^^ ea)), .unset, .unset, .unset, .unset, .unset] [(.int md)]))) (fun _ kk => XS.iload X0.here hx rfl (hb hby at_33) rfl kk) ?_
      refine go_of (B := (s₁.setTop (mkF m 36 #[.val (.int pa), .val (.int fa), .val (.int sa), .val (.int da), .val (.int ea), .val (.int md), .val (.int (pa ^^^ da)), .val (.int (fa ^^^ ea)), .unset, .unset, .unset, .unset, .unset] [(.int (4 : Int32)), (.int md)]))) (fun _ kk => XS.iconst X0.here hx rfl (hb hby at_35) kk) ?_
      refine go_of (B := (s₁.setTop (mkF m 37 #[.val (.int pa), .val (.int fa), .val (.int sa), .val (.int da), .val (.int ea), .val (.int md), .val (.int (pa ^^^ da)), .val (.int (fa ^^^ ea)), .unset, .unset, .unset, .unset, .unset] [(.int (md &&& (4 : Int32)))]))) (fun _ kk => XS.iand X0.here hx rfl (hb hby at_36) rfl kk) ?_
      by_cases hc137 : (md &&& (4 : Int32)) = (0 : Int32)
      · refine go_of (B := (s₁.setTop (mkF m 44 #[.val (.int pa), .val (.int fa), .val (.int sa), .val (.int da), .val (.int ea), .val (.int md), .val (.int (pa ^^^ da)), .val (.int (fa ^^^ ea)), .unset, .unset, .unset, .unset, .unset] []))) (fun _ kk => XS.ifYes X0.here hx rfl (pc0 := 37) (pc' := 44) rfl (hb hby at_37) rfl ((if0 _ _).trans (teq hc137).1) (by decide) (by decide) kk) ?_
        refine go_of (B := (s₁.setTop (mkF m 45 #[.val (.int pa), .val (.int fa), .val (.int sa), .val (.int da), .val (.int ea), .val (.int md), .val (.int (pa ^^^ da)), .val (.int (fa ^^^ ea)), .unset, .unset, .unset, .unset, .unset] [(.int sa)]))) (fun _ kk => XS.iloadN X0.here hx rfl (hb hby at_44) rfl kk) ?_
        refine go_of (B := (s₁.setTop (mkF m 46 #[.val (.int pa), .val (.int fa), .val (.int sa), .val (.int da), .val (.int ea), .val (.int md), .val (.int (pa ^^^ da)), .val (.int (fa ^^^ ea)), .unset, .unset, .unset, .unset, .unset] [(.int da), (.int sa)]))) (fun _ kk => XS.iloadN X0.here hx rfl (hb hby at_45) rfl kk) ?_
        refine go_of (B := (s₁.setTop (mkF m 47 #[.val (.int pa), .val (.int fa), .val (.int sa), .val (.int da), .val (.int ea), .val (.int md), .val (.int (pa ^^^ da)), .val (.int (fa ^^^ ea)), .unset, .unset, .unset, .unset, .unset] [(.int (sa ^^^ da))]))) (fun _ kk => XS.ixor X0.here hx rfl (hb hby at_46) rfl kk) ?_
        refine go_of (B := (s₁.setTop (mkF m 49 #[.val (.int pa), .val (.int fa), .val (.int sa), .val (.int da), .val (.int ea), .val (.int md), .val (.int (pa ^^^ da)), .val (.int (fa ^^^ ea)), .unset, .unset, .unset, .unset, .unset] [(.int ea), (.int (sa ^^^ da))]))) (fun _ kk => XS.iload X0.here hx rfl (hb hby at_47) rfl kk) ?_
        refine go_of (B := (s₁.setTop (mkF m 50 #[.val (.int pa), .val (.int fa), .val (.int sa), .val (.int da), .val (.int ea), .val (.int md), .val (.int (pa ^^^ da)), .val (.int (fa ^^^ ea)), .unset, .unset, .unset, .unset, .unset] [(.int ((sa ^^^ da) ^^^ ea))]))) (fun _ kk => XS.ixor X0.here hx rfl (hb hby at_49) rfl kk) ?_
        refine go_of (B := (s₁.setTop (mkF m 52 #[.val (.int pa), .val (.int fa), .val (.int sa), .val (.int da), .val (.int ea), .val (.int md), .val (.int (pa ^^^ da)), .val (.int (fa ^^^ ea)), .val (.int ((sa ^^^ da) ^^^ ea)), .unset, .unset, .unset, .unset] []))) (fun _ kk => XS.istore X0.here hx rfl (hb hby at_50) rfl rfl kk) ?_
        exact lw52 pa fa sa da ea md (pa ^^^ da) (fa ^^^ ea) ((sa ^^^ da) ^^^ ea) gC X0 hx hZ hw hby hml hown Bd.returns Bd.notSynchronized e0 N0 (by first | omega | exact own_ne (by omega) | exact own_le (by omega) | exact own_lt (by omega)) O SC hgC hh0 hCH
      · refine go_of (B := (s₁.setTop (mkF m 40 #[.val (.int pa), .val (.int fa), .val (.int sa), .val (.int da), .val (.int ea), .val (.int md), .val (.int (pa ^^^ da)), .val (.int (fa ^^^ ea)), .unset, .unset, .unset, .unset, .unset] []))) (fun _ kk => XS.ifNo X0.here hx rfl (hb hby at_37) rfl ((if0 _ _).trans (feq hc137).1) kk) ?_
        refine go_of (B := (s₁.setTop (mkF m 41 #[.val (.int pa), .val (.int fa), .val (.int sa), .val (.int da), .val (.int ea), .val (.int md), .val (.int (pa ^^^ da)), .val (.int (fa ^^^ ea)), .unset, .unset, .unset, .unset, .unset] [(.int sa)]))) (fun _ kk => XS.iloadN X0.here hx rfl (hb hby at_40) rfl kk) ?_
        refine go_of (B := (s₁.setTop (mkF m 50 #[.val (.int pa), .val (.int fa), .val (.int sa), .val (.int da), .val (.int ea), .val (.int md), .val (.int (pa ^^^ da)), .val (.int (fa ^^^ ea)), .unset, .unset, .unset, .unset, .unset] [(.int sa)]))) (fun _ kk => XS.goto X0.here hx rfl (pc0 := 41) (pc' := 50) rfl (hb hby at_41) (by decide) (by decide) kk) ?_
        refine go_of (B := (s₁.setTop (mkF m 52 #[.val (.int pa), .val (.int fa), .val (.int sa), .val (.int da), .val (.int ea), .val (.int md), .val (.int (pa ^^^ da)), .val (.int (fa ^^^ ea)), .val (.int sa), .unset, .unset, .unset, .unset] []))) (fun _ kk => XS.istore X0.here hx rfl (hb hby at_50) rfl rfl kk) ?_
        exact lw52 pa fa sa da ea md (pa ^^^ da) (fa ^^^ ea) sa gC X0 hx hZ hw hby hml hown Bd.returns Bd.notSynchronized e0 N0 (by first | omega | exact own_ne (by omega) | exact own_le (by omega) | exact own_lt (by omega)) O SC hgC hh0 hCH
    · refine go_of (B := (s₁.setTop (mkF m 23 #[.val (.int pa), .val (.int fa), .val (.int sa), .val (.int da), .val (.int ea), .val (.int md), .val (.int (pa ^^^ da)), .unset, .unset, .unset, .unset, .unset, .unset] []))) (fun _ kk => XS.ifNo X0.here hx rfl (hb hby at_20) rfl ((if0 _ _).trans (feq hc136).1) kk) ?_
      refine go_of (B := (s₁.setTop (mkF m 24 #[.val (.int pa), .val (.int fa), .val (.int sa), .val (.int da), .val (.int ea), .val (.int md), .val (.int (pa ^^^ da)), .unset, .unset, .unset, .unset, .unset, .unset] [(.int fa)]))) (fun _ kk => XS.iloadN X0.here hx rfl (hb hby at_23) rfl kk) ?_
      refine go_of (B := (s₁.setTop (mkF m 31 #[.val (.int pa), .val (.int fa), .val (.int sa), .val (.int da), .val (.int ea), .val (.int md), .val (.int (pa ^^^ da)), .unset, .unset, .unset, .unset, .unset, .unset] [(.int fa)]))) (fun _ kk => XS.goto X0.here hx rfl (pc0 := 24) (pc' := 31) rfl (hb hby at_24) (by decide) (by decide) kk) ?_
      refine go_of (B := (s₁.setTop (mkF m 33 #[.val (.int pa), .val (.int fa), .val (.int sa), .val (.int da), .val (.int ea), .val (.int md), .val (.int (pa ^^^ da)), .val (.int fa), .unset, .unset, .unset, .unset, .unset] []))) (fun _ kk => XS.istore X0.here hx rfl (hb hby at_31) rfl rfl kk) ?_
      refine go_of (B := (s₁.setTop (mkF m 35 #[.val (.int pa), .val (.int fa), .val (.int sa), .val (.int da), .val (.int ea), .val (.int md), .val (.int (pa ^^^ da)), .val (.int fa), .unset, .unset, .unset, .unset, .unset] [(.int md)]))) (fun _ kk => XS.iload X0.here hx rfl (hb hby at_33) rfl kk) ?_
      refine go_of (B := (s₁.setTop (mkF m 36 #[.val (.int pa), .val (.int fa), .val (.int sa), .val (.int da), .val (.int ea), .val (.int md), .val (.int (pa ^^^ da)), .val (.int fa), .unset, .unset, .unset, .unset, .unset] [(.int (4 : Int32)), (.int md)]))) (fun _ kk => XS.iconst X0.here hx rfl (hb hby at_35) kk) ?_
      refine go_of (B := (s₁.setTop (mkF m 37 #[.val (.int pa), .val (.int fa), .val (.int sa), .val (.int da), .val (.int ea), .val (.int md), .val (.int (pa ^^^ da)), .val (.int fa), .unset, .unset, .unset, .unset, .unset] [(.int (md &&& (4 : Int32)))]))) (fun _ kk => XS.iand X0.here hx rfl (hb hby at_36) rfl kk) ?_
      by_cases hc138 : (md &&& (4 : Int32)) = (0 : Int32)
      · refine go_of (B := (s₁.setTop (mkF m 44 #[.val (.int pa), .val (.int fa), .val (.int sa), .val (.int da), .val (.int ea), .val (.int md), .val (.int (pa ^^^ da)), .val (.int fa), .unset, .unset, .unset, .unset, .unset] []))) (fun _ kk => XS.ifYes X0.here hx rfl (pc0 := 37) (pc' := 44) rfl (hb hby at_37) rfl ((if0 _ _).trans (teq hc138).1) (by decide) (by decide) kk) ?_
        refine go_of (B := (s₁.setTop (mkF m 45 #[.val (.int pa), .val (.int fa), .val (.int sa), .val (.int da), .val (.int ea), .val (.int md), .val (.int (pa ^^^ da)), .val (.int fa), .unset, .unset, .unset, .unset, .unset] [(.int sa)]))) (fun _ kk => XS.iloadN X0.here hx rfl (hb hby at_44) rfl kk) ?_
        refine go_of (B := (s₁.setTop (mkF m 46 #[.val (.int pa), .val (.int fa), .val (.int sa), .val (.int da), .val (.int ea), .val (.int md), .val (.int (pa ^^^ da)), .val (.int fa), .unset, .unset, .unset, .unset, .unset] [(.int da), (.int sa)]))) (fun _ kk => XS.iloadN X0.here hx rfl (hb hby at_45) rfl kk) ?_
        refine go_of (B := (s₁.setTop (mkF m 47 #[.val (.int pa), .val (.int fa), .val (.int sa), .val (.int da), .val (.int ea), .val (.int md), .val (.int (pa ^^^ da)), .val (.int fa), .unset, .unset, .unset, .unset, .unset] [(.int (sa ^^^ da))]))) (fun _ kk => XS.ixor X0.here hx rfl (hb hby at_46) rfl kk) ?_
        refine go_of (B := (s₁.setTop (mkF m 49 #[.val (.int pa), .val (.int fa), .val (.int sa), .val (.int da), .val (.int ea), .val (.int md), .val (.int (pa ^^^ da)), .val (.int fa), .unset, .unset, .unset, .unset, .unset] [(.int ea), (.int (sa ^^^ da))]))) (fun _ kk => XS.iload X0.here hx rfl (hb hby at_47) rfl kk) ?_
        refine go_of (B := (s₁.setTop (mkF m 50 #[.val (.int pa), .val (.int fa), .val (.int sa), .val (.int da), .val (.int ea), .val (.int md), .val (.int (pa ^^^ da)), .val (.int fa), .unset, .unset, .unset, .unset, .unset] [(.int ((sa ^^^ da) ^^^ ea))]))) (fun _ kk => XS.ixor X0.here hx rfl (hb hby at_49) rfl kk) ?_
        refine go_of (B := (s₁.setTop (mkF m 52 #[.val (.int pa), .val (.int fa), .val (.int sa), .val (.int da), .val (.int ea), .val (.int md), .val (.int (pa ^^^ da)), .val (.int fa), .val (.int ((sa ^^^ da) ^^^ ea)), .unset, .unset, .unset, .unset] []))) (fun _ kk => XS.istore X0.here hx rfl (hb hby at_50) rfl rfl kk) ?_
        exact lw52 pa fa sa da ea md (pa ^^^ da) fa ((sa ^^^ da) ^^^ ea) gC X0 hx hZ hw hby hml hown Bd.returns Bd.notSynchronized e0 N0 (by first | omega | exact own_ne (by omega) | exact own_le (by omega) | exact own_lt (by omega)) O SC hgC hh0 hCH
      · refine go_of (B := (s₁.setTop (mkF m 40 #[.val (.int pa), .val (.int fa), .val (.int sa), .val (.int da), .val (.int ea), .val (.int md), .val (.int (pa ^^^ da)), .val (.int fa), .unset, .unset, .unset, .unset, .unset] []))) (fun _ kk => XS.ifNo X0.here hx rfl (hb hby at_37) rfl ((if0 _ _).trans (feq hc138).1) kk) ?_
        refine go_of (B := (s₁.setTop (mkF m 41 #[.val (.int pa), .val (.int fa), .val (.int sa), .val (.int da), .val (.int ea), .val (.int md), .val (.int (pa ^^^ da)), .val (.int fa), .unset, .unset, .unset, .unset, .unset] [(.int sa)]))) (fun _ kk => XS.iloadN X0.here hx rfl (hb hby at_40) rfl kk) ?_
        refine go_of (B := (s₁.setTop (mkF m 50 #[.val (.int pa), .val (.int fa), .val (.int sa), .val (.int da), .val (.int ea), .val (.int md), .val (.int (pa ^^^ da)), .val (.int fa), .unset, .unset, .unset, .unset, .unset] [(.int sa)]))) (fun _ kk => XS.goto X0.here hx rfl (pc0 := 41) (pc' := 50) rfl (hb hby at_41) (by decide) (by decide) kk) ?_
        refine go_of (B := (s₁.setTop (mkF m 52 #[.val (.int pa), .val (.int fa), .val (.int sa), .val (.int da), .val (.int ea), .val (.int md), .val (.int (pa ^^^ da)), .val (.int fa), .val (.int sa), .unset, .unset, .unset, .unset] []))) (fun _ kk => XS.istore X0.here hx rfl (hb hby at_50) rfl rfl kk) ?_
        exact lw52 pa fa sa da ea md (pa ^^^ da) fa sa gC X0 hx hZ hw hby hml hown Bd.returns Bd.notSynchronized e0 N0 (by first | omega | exact own_ne (by omega) | exact own_le (by omega) | exact own_lt (by omega)) O SC hgC hh0 hCH
  · refine go_of (B := (s₁.setTop (mkF m 7 #[.val (.int pa), .val (.int fa), .val (.int sa), .val (.int da), .val (.int ea), .val (.int md), .unset, .unset, .unset, .unset, .unset, .unset, .unset] []))) (fun _ kk => XS.ifNo X0.here hx rfl (hb hby at_4) rfl ((if0 _ _).trans (feq hc135).1) kk) ?_
    refine go_of (B := (s₁.setTop (mkF m 8 #[.val (.int pa), .val (.int fa), .val (.int sa), .val (.int da), .val (.int ea), .val (.int md), .unset, .unset, .unset, .unset, .unset, .unset, .unset] [(.int pa)]))) (fun _ kk => XS.iloadN X0.here hx rfl (hb hby at_7) rfl kk) ?_
    refine go_of (B := (s₁.setTop (mkF m 14 #[.val (.int pa), .val (.int fa), .val (.int sa), .val (.int da), .val (.int ea), .val (.int md), .unset, .unset, .unset, .unset, .unset, .unset, .unset] [(.int pa)]))) (fun _ kk => XS.goto X0.here hx rfl (pc0 := 8) (pc' := 14) rfl (hb hby at_8) (by decide) (by decide) kk) ?_
    refine go_of (B := (s₁.setTop (mkF m 16 #[.val (.int pa), .val (.int fa), .val (.int sa), .val (.int da), .val (.int ea), .val (.int md), .val (.int pa), .unset, .unset, .unset, .unset, .unset, .unset] []))) (fun _ kk => XS.istore X0.here hx rfl (hb hby at_14) rfl rfl kk) ?_
    refine go_of (B := (s₁.setTop (mkF m 18 #[.val (.int pa), .val (.int fa), .val (.int sa), .val (.int da), .val (.int ea), .val (.int md), .val (.int pa), .unset, .unset, .unset, .unset, .unset, .unset] [(.int md)]))) (fun _ kk => XS.iload X0.here hx rfl (hb hby at_16) rfl kk) ?_
    refine go_of (B := (s₁.setTop (mkF m 19 #[.val (.int pa), .val (.int fa), .val (.int sa), .val (.int da), .val (.int ea), .val (.int md), .val (.int pa), .unset, .unset, .unset, .unset, .unset, .unset] [(.int (2 : Int32)), (.int md)]))) (fun _ kk => XS.iconst X0.here hx rfl (hb hby at_18) kk) ?_
    refine go_of (B := (s₁.setTop (mkF m 20 #[.val (.int pa), .val (.int fa), .val (.int sa), .val (.int da), .val (.int ea), .val (.int md), .val (.int pa), .unset, .unset, .unset, .unset, .unset, .unset] [(.int (md &&& (2 : Int32)))]))) (fun _ kk => XS.iand X0.here hx rfl (hb hby at_19) rfl kk) ?_
    by_cases hc139 : (md &&& (2 : Int32)) = (0 : Int32)
    · refine go_of (B := (s₁.setTop (mkF m 27 #[.val (.int pa), .val (.int fa), .val (.int sa), .val (.int da), .val (.int ea), .val (.int md), .val (.int pa), .unset, .unset, .unset, .unset, .unset, .unset] []))) (fun _ kk => XS.ifYes X0.here hx rfl (pc0 := 20) (pc' := 27) rfl (hb hby at_20) rfl ((if0 _ _).trans (teq hc139).1) (by decide) (by decide) kk) ?_
      refine go_of (B := (s₁.setTop (mkF m 28 #[.val (.int pa), .val (.int fa), .val (.int sa), .val (.int da), .val (.int ea), .val (.int md), .val (.int pa), .unset, .unset, .unset, .unset, .unset, .unset] [(.int fa)]))) (fun _ kk => XS.iloadN X0.here hx rfl (hb hby at_27) rfl kk) ?_
      refine go_of (B := (s₁.setTop (mkF m 30 #[.val (.int pa), .val (.int fa), .val (.int sa), .val (.int da), .val (.int ea), .val (.int md), .val (.int pa), .unset, .unset, .unset, .unset, .unset, .unset] [(.int ea), (.int fa)]))) (fun _ kk => XS.iload X0.here hx rfl (hb hby at_28) rfl kk) ?_
      refine go_of (B := (s₁.setTop (mkF m 31 #[.val (.int pa), .val (.int fa), .val (.int sa), .val (.int da), .val (.int ea), .val (.int md), .val (.int pa), .unset, .unset, .unset, .unset, .unset, .unset] [(.int (fa ^^^ ea))]))) (fun _ kk => XS.ixor X0.here hx rfl (hb hby at_30) rfl kk) ?_
      refine go_of (B := (s₁.setTop (mkF m 33 #[.val (.int pa), .val (.int fa), .val (.int sa), .val (.int da), .val (.int ea), .val (.int md), .val (.int pa), .val (.int (fa ^^^ ea)), .unset, .unset, .unset, .unset, .unset] []))) (fun _ kk => XS.istore X0.here hx rfl (hb hby at_31) rfl rfl kk) ?_
      refine go_of (B := (s₁.setTop (mkF m 35 #[.val (.int pa), .val (.int fa), .val (.int sa), .val (.int da), .val (.int ea), .val (.int md), .val (.int pa), .val (.int (fa ^^^ ea)), .unset, .unset, .unset, .unset, .unset] [(.int md)]))) (fun _ kk => XS.iload X0.here hx rfl (hb hby at_33) rfl kk) ?_
      refine go_of (B := (s₁.setTop (mkF m 36 #[.val (.int pa), .val (.int fa), .val (.int sa), .val (.int da), .val (.int ea), .val (.int md), .val (.int pa), .val (.int (fa ^^^ ea)), .unset, .unset, .unset, .unset, .unset] [(.int (4 : Int32)), (.int md)]))) (fun _ kk => XS.iconst X0.here hx rfl (hb hby at_35) kk) ?_
      refine go_of (B := (s₁.setTop (mkF m 37 #[.val (.int pa), .val (.int fa), .val (.int sa), .val (.int da), .val (.int ea), .val (.int md), .val (.int pa), .val (.int (fa ^^^ ea)), .unset, .unset, .unset, .unset, .unset] [(.int (md &&& (4 : Int32)))]))) (fun _ kk => XS.iand X0.here hx rfl (hb hby at_36) rfl kk) ?_
      by_cases hc140 : (md &&& (4 : Int32)) = (0 : Int32)
      · refine go_of (B := (s₁.setTop (mkF m 44 #[.val (.int pa), .val (.int fa), .val (.int sa), .val (.int da), .val (.int ea), .val (.int md), .val (.int pa), .val (.int (fa ^^^ ea)), .unset, .unset, .unset, .unset, .unset] []))) (fun _ kk => XS.ifYes X0.here hx rfl (pc0 := 37) (pc' := 44) rfl (hb hby at_37) rfl ((if0 _ _).trans (teq hc140).1) (by decide) (by decide) kk) ?_
        refine go_of (B := (s₁.setTop (mkF m 45 #[.val (.int pa), .val (.int fa), .val (.int sa), .val (.int da), .val (.int ea), .val (.int md), .val (.int pa), .val (.int (fa ^^^ ea)), .unset, .unset, .unset, .unset, .unset] [(.int sa)]))) (fun _ kk => XS.iloadN X0.here hx rfl (hb hby at_44) rfl kk) ?_
        refine go_of (B := (s₁.setTop (mkF m 46 #[.val (.int pa), .val (.int fa), .val (.int sa), .val (.int da), .val (.int ea), .val (.int md), .val (.int pa), .val (.int (fa ^^^ ea)), .unset, .unset, .unset, .unset, .unset] [(.int da), (.int sa)]))) (fun _ kk => XS.iloadN X0.here hx rfl (hb hby at_45) rfl kk) ?_
        refine go_of (B := (s₁.setTop (mkF m 47 #[.val (.int pa), .val (.int fa), .val (.int sa), .val (.int da), .val (.int ea), .val (.int md), .val (.int pa), .val (.int (fa ^^^ ea)), .unset, .unset, .unset, .unset, .unset] [(.int (sa ^^^ da))]))) (fun _ kk => XS.ixor X0.here hx rfl (hb hby at_46) rfl kk) ?_
        refine go_of (B := (s₁.setTop (mkF m 49 #[.val (.int pa), .val (.int fa), .val (.int sa), .val (.int da), .val (.int ea), .val (.int md), .val (.int pa), .val (.int (fa ^^^ ea)), .unset, .unset, .unset, .unset, .unset] [(.int ea), (.int (sa ^^^ da))]))) (fun _ kk => XS.iload X0.here hx rfl (hb hby at_47) rfl kk) ?_
        refine go_of (B := (s₁.setTop (mkF m 50 #[.val (.int pa), .val (.int fa), .val (.int sa), .val (.int da), .val (.int ea), .val (.int md), .val (.int pa), .val (.int (fa ^^^ ea)), .unset, .unset, .unset, .unset, .unset] [(.int ((sa ^^^ da) ^^^ ea))]))) (fun _ kk => XS.ixor X0.here hx rfl (hb hby at_49) rfl kk) ?_
        refine go_of (B := (s₁.setTop (mkF m 52 #[.val (.int pa), .val (.int fa), .val (.int sa), .val (.int da), .val (.int ea), .val (.int md), .val (.int pa), .val (.int (fa ^^^ ea)), .val (.int ((sa ^^^ da) ^^^ ea)), .unset, .unset, .unset, .unset] []))) (fun _ kk => XS.istore X0.here hx rfl (hb hby at_50) rfl rfl kk) ?_
        exact lw52 pa fa sa da ea md pa (fa ^^^ ea) ((sa ^^^ da) ^^^ ea) gC X0 hx hZ hw hby hml hown Bd.returns Bd.notSynchronized e0 N0 (by first | omega | exact own_ne (by omega) | exact own_le (by omega) | exact own_lt (by omega)) O SC hgC hh0 hCH
      · refine go_of (B := (s₁.setTop (mkF m 40 #[.val (.int pa), .val (.int fa), .val (.int sa), .val (.int da), .val (.int ea), .val (.int md), .val (.int pa), .val (.int (fa ^^^ ea)), .unset, .unset, .unset, .unset, .unset] []))) (fun _ kk => XS.ifNo X0.here hx rfl (hb hby at_37) rfl ((if0 _ _).trans (feq hc140).1) kk) ?_
        refine go_of (B := (s₁.setTop (mkF m 41 #[.val (.int pa), .val (.int fa), .val (.int sa), .val (.int da), .val (.int ea), .val (.int md), .val (.int pa), .val (.int (fa ^^^ ea)), .unset, .unset, .unset, .unset, .unset] [(.int sa)]))) (fun _ kk => XS.iloadN X0.here hx rfl (hb hby at_40) rfl kk) ?_
        refine go_of (B := (s₁.setTop (mkF m 50 #[.val (.int pa), .val (.int fa), .val (.int sa), .val (.int da), .val (.int ea), .val (.int md), .val (.int pa), .val (.int (fa ^^^ ea)), .unset, .unset, .unset, .unset, .unset] [(.int sa)]))) (fun _ kk => XS.goto X0.here hx rfl (pc0 := 41) (pc' := 50) rfl (hb hby at_41) (by decide) (by decide) kk) ?_
        refine go_of (B := (s₁.setTop (mkF m 52 #[.val (.int pa), .val (.int fa), .val (.int sa), .val (.int da), .val (.int ea), .val (.int md), .val (.int pa), .val (.int (fa ^^^ ea)), .val (.int sa), .unset, .unset, .unset, .unset] []))) (fun _ kk => XS.istore X0.here hx rfl (hb hby at_50) rfl rfl kk) ?_
        exact lw52 pa fa sa da ea md pa (fa ^^^ ea) sa gC X0 hx hZ hw hby hml hown Bd.returns Bd.notSynchronized e0 N0 (by first | omega | exact own_ne (by omega) | exact own_le (by omega) | exact own_lt (by omega)) O SC hgC hh0 hCH
    · refine go_of (B := (s₁.setTop (mkF m 23 #[.val (.int pa), .val (.int fa), .val (.int sa), .val (.int da), .val (.int ea), .val (.int md), .val (.int pa), .unset, .unset, .unset, .unset, .unset, .unset] []))) (fun _ kk => XS.ifNo X0.here hx rfl (hb hby at_20) rfl ((if0 _ _).trans (feq hc139).1) kk) ?_
      refine go_of (B := (s₁.setTop (mkF m 24 #[.val (.int pa), .val (.int fa), .val (.int sa), .val (.int da), .val (.int ea), .val (.int md), .val (.int pa), .unset, .unset, .unset, .unset, .unset, .unset] [(.int fa)]))) (fun _ kk => XS.iloadN X0.here hx rfl (hb hby at_23) rfl kk) ?_
      refine go_of (B := (s₁.setTop (mkF m 31 #[.val (.int pa), .val (.int fa), .val (.int sa), .val (.int da), .val (.int ea), .val (.int md), .val (.int pa), .unset, .unset, .unset, .unset, .unset, .unset] [(.int fa)]))) (fun _ kk => XS.goto X0.here hx rfl (pc0 := 24) (pc' := 31) rfl (hb hby at_24) (by decide) (by decide) kk) ?_
      refine go_of (B := (s₁.setTop (mkF m 33 #[.val (.int pa), .val (.int fa), .val (.int sa), .val (.int da), .val (.int ea), .val (.int md), .val (.int pa), .val (.int fa), .unset, .unset, .unset, .unset, .unset] []))) (fun _ kk => XS.istore X0.here hx rfl (hb hby at_31) rfl rfl kk) ?_
      refine go_of (B := (s₁.setTop (mkF m 35 #[.val (.int pa), .val (.int fa), .val (.int sa), .val (.int da), .val (.int ea), .val (.int md), .val (.int pa), .val (.int fa), .unset, .unset, .unset, .unset, .unset] [(.int md)]))) (fun _ kk => XS.iload X0.here hx rfl (hb hby at_33) rfl kk) ?_
      refine go_of (B := (s₁.setTop (mkF m 36 #[.val (.int pa), .val (.int fa), .val (.int sa), .val (.int da), .val (.int ea), .val (.int md), .val (.int pa), .val (.int fa), .unset, .unset, .unset, .unset, .unset] [(.int (4 : Int32)), (.int md)]))) (fun _ kk => XS.iconst X0.here hx rfl (hb hby at_35) kk) ?_
      refine go_of (B := (s₁.setTop (mkF m 37 #[.val (.int pa), .val (.int fa), .val (.int sa), .val (.int da), .val (.int ea), .val (.int md), .val (.int pa), .val (.int fa), .unset, .unset, .unset, .unset, .unset] [(.int (md &&& (4 : Int32)))]))) (fun _ kk => XS.iand X0.here hx rfl (hb hby at_36) rfl kk) ?_
      by_cases hc141 : (md &&& (4 : Int32)) = (0 : Int32)
      · refine go_of (B := (s₁.setTop (mkF m 44 #[.val (.int pa), .val (.int fa), .val (.int sa), .val (.int da), .val (.int ea), .val (.int md), .val (.int pa), .val (.int fa), .unset, .unset, .unset, .unset, .unset] []))) (fun _ kk => XS.ifYes X0.here hx rfl (pc0 := 37) (pc' := 44) rfl (hb hby at_37) rfl ((if0 _ _).trans (teq hc141).1) (by decide) (by decide) kk) ?_
        refine go_of (B := (s₁.setTop (mkF m 45 #[.val (.int pa), .val (.int fa), .val (.int sa), .val (.int da), .val (.int ea), .val (.int md), .val (.int pa), .val (.int fa), .unset, .unset, .unset, .unset, .unset] [(.int sa)]))) (fun _ kk => XS.iloadN X0.here hx rfl (hb hby at_44) rfl kk) ?_
        refine go_of (B := (s₁.setTop (mkF m 46 #[.val (.int pa), .val (.int fa), .val (.int sa), .val (.int da), .val (.int ea), .val (.int md), .val (.int pa), .val (.int fa), .unset, .unset, .unset, .unset, .unset] [(.int da), (.int sa)]))) (fun _ kk => XS.iloadN X0.here hx rfl (hb hby at_45) rfl kk) ?_
        refine go_of (B := (s₁.setTop (mkF m 47 #[.val (.int pa), .val (.int fa), .val (.int sa), .val (.int da), .val (.int ea), .val (.int md), .val (.int pa), .val (.int fa), .unset, .unset, .unset, .unset, .unset] [(.int (sa ^^^ da))]))) (fun _ kk => XS.ixor X0.here hx rfl (hb hby at_46) rfl kk) ?_
        refine go_of (B := (s₁.setTop (mkF m 49 #[.val (.int pa), .val (.int fa), .val (.int sa), .val (.int da), .val (.int ea), .val (.int md), .val (.int pa), .val (.int fa), .unset, .unset, .unset, .unset, .unset] [(.int ea), (.int (sa ^^^ da))]))) (fun _ kk => XS.iload X0.here hx rfl (hb hby at_47) rfl kk) ?_
        refine go_of (B := (s₁.setTop (mkF m 50 #[.val (.int pa), .val (.int fa), .val (.int sa), .val (.int da), .val (.int ea), .val (.int md), .val (.int pa), .val (.int fa), .unset, .unset, .unset, .unset, .unset] [(.int ((sa ^^^ da) ^^^ ea))]))) (fun _ kk => XS.ixor X0.here hx rfl (hb hby at_49) rfl kk) ?_
        refine go_of (B := (s₁.setTop (mkF m 52 #[.val (.int pa), .val (.int fa), .val (.int sa), .val (.int da), .val (.int ea), .val (.int md), .val (.int pa), .val (.int fa), .val (.int ((sa ^^^ da) ^^^ ea)), .unset, .unset, .unset, .unset] []))) (fun _ kk => XS.istore X0.here hx rfl (hb hby at_50) rfl rfl kk) ?_
        exact lw52 pa fa sa da ea md pa fa ((sa ^^^ da) ^^^ ea) gC X0 hx hZ hw hby hml hown Bd.returns Bd.notSynchronized e0 N0 (by first | omega | exact own_ne (by omega) | exact own_le (by omega) | exact own_lt (by omega)) O SC hgC hh0 hCH
      · refine go_of (B := (s₁.setTop (mkF m 40 #[.val (.int pa), .val (.int fa), .val (.int sa), .val (.int da), .val (.int ea), .val (.int md), .val (.int pa), .val (.int fa), .unset, .unset, .unset, .unset, .unset] []))) (fun _ kk => XS.ifNo X0.here hx rfl (hb hby at_37) rfl ((if0 _ _).trans (feq hc141).1) kk) ?_
        refine go_of (B := (s₁.setTop (mkF m 41 #[.val (.int pa), .val (.int fa), .val (.int sa), .val (.int da), .val (.int ea), .val (.int md), .val (.int pa), .val (.int fa), .unset, .unset, .unset, .unset, .unset] [(.int sa)]))) (fun _ kk => XS.iloadN X0.here hx rfl (hb hby at_40) rfl kk) ?_
        refine go_of (B := (s₁.setTop (mkF m 50 #[.val (.int pa), .val (.int fa), .val (.int sa), .val (.int da), .val (.int ea), .val (.int md), .val (.int pa), .val (.int fa), .unset, .unset, .unset, .unset, .unset] [(.int sa)]))) (fun _ kk => XS.goto X0.here hx rfl (pc0 := 41) (pc' := 50) rfl (hb hby at_41) (by decide) (by decide) kk) ?_
        refine go_of (B := (s₁.setTop (mkF m 52 #[.val (.int pa), .val (.int fa), .val (.int sa), .val (.int da), .val (.int ea), .val (.int md), .val (.int pa), .val (.int fa), .val (.int sa), .unset, .unset, .unset, .unset] []))) (fun _ kk => XS.istore X0.here hx rfl (hb hby at_50) rfl rfl kk) ?_
        exact lw52 pa fa sa da ea md pa fa sa gC X0 hx hZ hw hby hml hown Bd.returns Bd.notSynchronized e0 N0 (by first | omega | exact own_ne (by omega) | exact own_le (by omega) | exact own_lt (by omega)) O SC hgC hh0 hCH
theorem own_ne0 {t : Term} {g : Int32} {args : Array Value} {s : State} (ev : t.eval args s none [] s = some (.int g)) (h : (Jvm.Cond.not (.eq t (.int 0))).value args s none s [] = some true) : ¬ g = (0 : Int32) := by
  have h1 := not_v h
  intro q; subst q
  simp [Cond.value, ev, Term.int_eval] at h1
set_option maxRecDepth 65536 in
set_option maxHeartbeats 40000000 in
theorem comes_1 {Post : Tables → Env → Array Value → State → Outcome → State → Prop} (hpost : ∀ tb e args s v u, (limb_1_1.after args s (.returned v) u = true ∧ limb_1_2.after args s (.returned v) u = true ∧ True) → ReturnedEndW s (.returned v) u (Jvm.fieldLocs frame_1_writes args s ++ Jvm.arrayLocs frame_1_arrays args s ++ Jvm.staticLocs frame_1_statics s) 64 6336 → Post tb e args s (.returned v) u) :
    ArmFor flags0 classFile x code maxLocals ret World_1 tables_1 room_1 Calls_1 rest_1 Pre_1 Post := by
  intro l hfl _ _ p e ha hc hk s m args below hf hA hF happ hP
  obtain ⟨hcalls, hrest, hpre⟩ := hP
  obtain ⟨-, -, -, hnamed, -, -, -, hat⟩ := (Spec.applies_iff hf).mp happ
  obtain ⟨hg, hn⟩ := and_e (Cond.before_iff.mp (show (Jvm.Cond.and given_1 narrow_1).before args s = true from hpre))
  obtain ⟨g1, g2⟩ := and_e hg
  obtain ⟨g3, g4⟩ := and_e g2
  obtain ⟨g5, g6⟩ := and_e g4
  obtain ⟨g7, g8⟩ := and_e g6
  obtain ⟨g9, g10⟩ := and_e g8
  obtain ⟨g11, g12⟩ := and_e g10
  obtain ⟨w0, w1, w2, w3, w4, w5, rfl⟩ : ∃ w0 w1 w2 w3 w4 w5 : Value, args = #[w0, w1, w2, w3, w4, w5] := by
    have hs : args.size = 6 := by simpa [Cond.value, given_1] using g1
    obtain ⟨L⟩ := args
    match L, hs with
    | [w0, w1, w2, w3, w4, w5], _ => exact ⟨w0, w1, w2, w3, w4, w5, rfl⟩
  have hw := fun d (hd : d ∈ tables_1) => atoms_spec (ws := Jvm.Cond.code x code maxLocals ret :: tables_1) hat d (List.mem_cons_of_mem _ hd)
  have hfit : Fit s := fun {y c} hc i hi => by
    obtain ⟨ha, rfl⟩ := Array.getElem?_eq_some_iff.mp hc
    have q := List.all_eq_true.mp ((Array.all_eq_true_iff_forall_mem.mp hF) _ (Array.getElem_mem ha)) i (List.mem_range.mpr hi)
    simpa [Array.getElem?_eq_getElem hi] using q
  obtain ⟨hsets, hown0⟩ := atoms_of _ (rest_1_c_eq ▸ (show rest_1_c.before _ s = true from hrest))
  have hr0 := Cond.before_iff.mp hown0
  obtain ⟨i0, ei0⟩ := is_v g3
  obtain rfl : w0 = (.int i0) := Option.some.inj ei0
  obtain ⟨i1, ei1⟩ := is_v g5
  obtain rfl : w1 = (.int i1) := Option.some.inj ei1
  obtain ⟨i2, ei2⟩ := is_v g7
  obtain rfl : w2 = (.int i2) := Option.some.inj ei2
  obtain ⟨i3, ei3⟩ := is_v g9
  obtain rfl : w3 = (.int i3) := Option.some.inj ei3
  obtain ⟨i4, ei4⟩ := is_v g11
  obtain rfl : w4 = (.int i4) := Option.some.inj ei4
  obtain ⟨i5, ei5⟩ := is_v g12
  obtain rfl : w5 = (.int i5) := Option.some.inj ei5
  obtain ⟨gC, evC⟩ := is_v (Cond.before_iff.mp (hsets _ (List.mem_of_getElem? (i := 1) rfl)))
  have SC := Sta.start evC (Or.inl (hsets _ (List.mem_of_getElem? (i := 0) rfl)))
  have hgC : ¬ gC = (0 : Int32) := own_ne0 evC (Cond.before_iff.mp (hsets _ (List.mem_of_getElem? (i := 2) rfl)))
  have hHeld : ∀ p ∈ own_EL, Jvm.Lit.constHeld s p.1 p.2 := by
    intro p hp
    obtain rfl : p = ("java/lang/String", 7) := List.mem_singleton.mp hp
    exact hcalls.1 _ (List.mem_of_getElem? (i := 5) rfl)
  have hCH := CHv.start (own_EW hw) hHeld (hsets _ (List.mem_of_getElem? (i := 2) rfl)) (hw _ (List.mem_of_getElem? (i := 25) rfl)) (hw _ (List.mem_of_getElem? (i := 11) rfl))
  obtain ⟨n, o, h1, h2, h3, _, L, rfl, ⟨rfl, N⟩, -, hq⟩ := rm0 l s _ hw tables_1 i0 i1 i2 i3 i4 i5 gC s.heap s.heap.size (Nat.le_refl _) (Old.start s) SC hgC p e ha hc hk s m _ below hf ((Spec.applies_iff_loose hf).mp happ).1 ⟨rfl, State.Warmed39.refl s, rfl, hCH⟩ trivial
  exact ⟨n, _, h1, h2, h3, hpost _ _ _ _ _ _ ⟨Cond.after_iff.mpr rfl, Cond.after_iff.mpr (eq_i res_at (Term.int_eval (1)) rfl), trivial⟩ ⟨hq.1, hq.2.1, hq.2.2.1, (hq.2.2.2.sift fun y hy => Or.inr (N y hy)).mono (by decide) (by decide)⟩⟩
theorem main_1_1 : Claimed_1_1 := comes_1 fun _ _ _ _ _ _ h hF => ⟨h.1, hF⟩
theorem main_1_2 : Claimed_1_2 := comes_1 fun _ _ _ _ _ _ h hF => ⟨h.2.1, hF⟩
end Jvm.Pilot.@@N@@
namespace Jvm.Pilot.@@N@@
open Jvm Jvm.ClassFile Sem Op Lib Jvm.Free Jvm.Stand Jvm.Pilot.@@N@@.Jvm.D
/-! MADE BY PROGRAM (witnessworld.py) out of the Statement's table words and the real class files: 23 classes; the members and pool entries that the words name. The judged class is class 1, her method 4. -/
namespace start1
open Jvm.ClassFile
def u (s : String) : CpInfo := .utf8 (stringToUtf16 s)
/-- a pool by its gaps: so many unusable entries, then the entry; so many at the end -/
def gap : Nat → List CpInfo → List CpInfo
  | 0, r => r
  | n + 1, r => .unusable :: gap n r
def poolList (es : List (Nat × CpInfo)) (last : Nat) : List CpInfo := es.foldr (fun e r => gap e.1 (e.2 :: r)) (gap last [])
def pool (es : List (Nat × CpInfo)) (last : Nat) : Array CpInfo := ⟨poolList es last⟩
def fileOf (pool : Array CpInfo) (this : Nat) (attrs : Array Attribute := #[]) (ms : Array MethodInfo := #[]) (fl : Nat := 33) (sup : Nat := 0) (ifs : Array Nat := #[]) (fds : Array FieldInfo := #[]) : ClassFile where
  minorVersion := 0
  majorVersion := 65
  constantPool := pool
  accessFlags := fl
  thisClass := this
  superClass := sup
  interfaces := ifs
  fields := fds
  methods := ms
  attributes := attrs
def plain (name : String) (sup : Option ClassId) : Class where
  name := name
  kind := .ordinary
  loader := none
  accessFlags := 33
  super := sup
  interfaces := #[]
  cf := none
  fields := #[]
  methods := #[]
  instanceTypes := #[]
  staticTypes := #[]
  resolved := #[]
  callSites := []
  init := .initialized
  statics := none
  mirror := none

def pool0 : Array CpInfo := pool [(5, u "<init>"), (0, u "()V"), (1, .class_ 10), (1, u "java/lang/Object")] 113

def k0c0 : Code := { maxStack := 0, maxLocals := 1, code := object_method_1_code, exceptionTable := #[], attributes := #[] }
def k0m0 : Method := { name := "<init>", desc := "()V", sig := { parameters := [], returnType := none }, accessFlags := 1, code := some k0c0 }
/-- java/lang/Object -/
def k0 : Class := { plain "java/lang/Object" none with
  accessFlags := 33
  interfaces := #[]
  cf := some (fileOf pool0 8 #[] #[{ accessFlags := 1, nameIndex := 5, descriptorIndex := 6, attributes := #[] }] 33 0 #[] #[])
  fields := #[]
  methods := #[k0m0]
  instanceTypes := #[]
  staticTypes := #[]
  resolved := Array.replicate 124 none
  statics := none }

def pool1 : Array CpInfo := pool [(2, .class_ 4), (1, u "java/lang/Object"), (0, u "<init>"), (0, u "()V"), (0, .methodref 8 9), (0, .class_ 10), (0, .nameAndType 11 12), (0, u "com/example/sure_paths/surepaths/model/ClassToExistentialEqualsPinLaw"), (0, u "len"), (0, u "(I)I"), (0, .class_ 14), (0, u "java/lang/String"), (0, .methodref 13 16), (0, .nameAndType 5 17), (0, u "([C)V"), (0, .integer 65536), (0, .integer 131072), (0, .integer 65535), (0, .class_ 22), (0, u "com/example/sure_paths/surepaths/model/ClassToExistential"), (0, .methodref 8 24), (0, .nameAndType 25 26), (0, u "str"), (0, u "(I)Ljava/lang/String;"), (0, .methodref 21 28), (0, .nameAndType 5 29), (0, u "(Ljava/lang/String;Ljava/lang/String;Ljava/lang/String;)V"), (0, .methodref 8 31), (0, .nameAndType 32 12), (0, u "norm"), (0, .methodref 21 34), (0, .nameAndType 35 36), (0, u "equals"), (0, u "(Ljava/lang/Object;)Z"), (0, .class_ 38), (0, u "com/example/sure_paths/surepaths/model/ClassInclusion"), (0, .methodref 37 40), (0, .nameAndType 5 41), (0, u "(Ljava/lang/String;Ljava/lang/String;)V"), (3, u "law"), (0, u "(IIIIII)Z")] 2

def k1m0 : Method := { name := "<init>", desc := "()V", sig := { parameters := [], returnType := none }, accessFlags := 1, code := none }
def k1c1 : Code := { maxStack := 2, maxLocals := 1, code := method_2_code, exceptionTable := #[], attributes := #[] }
def k1m1 : Method := { name := "len", desc := "(I)I", sig := { parameters := [.int], returnType := some .int }, accessFlags := 10, code := some k1c1 }
def k1c2 : Code := { maxStack := 3, maxLocals := 5, code := method_3_code, exceptionTable := #[], attributes := #[] }
def k1m2 : Method := { name := "str", desc := "(I)Ljava/lang/String;", sig := { parameters := [.int], returnType := some (.object "java/lang/String") }, accessFlags := 10, code := some k1c2 }
def k1c3 : Code := { maxStack := 3, maxLocals := 2, code := method_4_code, exceptionTable := #[], attributes := #[] }
def k1m3 : Method := { name := "norm", desc := "(I)I", sig := { parameters := [.int], returnType := some .int }, accessFlags := 10, code := some k1c3 }
def k1c4 : Code := { maxStack := 5, maxLocals := 13, code := code, exceptionTable := #[], attributes := #[] }
def k1m4 : Method := { name := "law", desc := "(IIIIII)Z", sig := { parameters := [.int, .int, .int, .int, .int, .int], returnType := some .boolean }, accessFlags := 9, code := some k1c4 }
/-- com/example/sure_paths/surepaths/model/ClassToExistentialEqualsPinLaw -/
def k1 : Class := { plain "com/example/sure_paths/surepaths/model/ClassToExistentialEqualsPinLaw" (some 0) with
  accessFlags := 49
  interfaces := #[]
  cf := some (fileOf pool1 8 #[] #[{ accessFlags := 1, nameIndex := 5, descriptorIndex := 6, attributes := #[] }, { accessFlags := 10, nameIndex := 11, descriptorIndex := 12, attributes := #[] }, { accessFlags := 10, nameIndex := 25, descriptorIndex := 26, attributes := #[] }, { accessFlags := 10, nameIndex := 32, descriptorIndex := 12, attributes := #[] }, { accessFlags := 9, nameIndex := 45, descriptorIndex := 46, attributes := #[] }] 49 2 #[] #[])
  fields := #[]
  methods := #[k1m0, k1m1, k1m2, k1m3, k1m4]
  instanceTypes := #[]
  staticTypes := #[]
  resolved := Array.replicate 49 none
  statics := none }

def pool2 : Array CpInfo := pool [(1, .class_ 2), (0, u "com/example/sure_paths/surepaths/model/NormalForm"), (0, .class_ 4), (0, u "java/lang/Object")] 19

/-- com/example/sure_paths/surepaths/model/NormalForm -/
def k2 : Class := { plain "com/example/sure_paths/surepaths/model/NormalForm" (some 0) with
  accessFlags := 1537
  interfaces := #[]
  cf := some (fileOf pool2 1 #[] #[] 1537 3 #[] #[])
  fields := #[]
  methods := #[]
  instanceTypes := #[]
  staticTypes := #[]
  resolved := Array.replicate 24 none
  statics := none }

def pool3 : Array CpInfo := pool [(1, .methodref 2 3), (0, .class_ 4), (0, .nameAndType 5 6), (0, u "java/lang/Object"), (0, u "<init>"), (0, u "()V"), (0, .string 8), (0, u "subClass"), (0, .methodref 10 11), (0, .class_ 12), (0, .nameAndType 13 14), (0, u "java/util/Objects"), (0, u "requireNonNull"), (0, u "(Ljava/lang/Object;Ljava/lang/String;)Ljava/lang/Object;"), (0, .class_ 16), (0, u "java/lang/String"), (0, .fieldref 18 19), (0, .class_ 20), (0, .nameAndType 8 21), (0, u "com/example/sure_paths/surepaths/model/ClassToExistential"), (0, u "Ljava/lang/String;"), (0, .string 23), (0, u "property"), (0, .fieldref 18 25), (0, .nameAndType 23 21), (0, .string 27), (0, u "filler"), (0, .fieldref 18 29), (0, .nameAndType 27 21), (0, .methodref 15 31), (0, .nameAndType 32 33), (0, u "equals"), (0, u "(Ljava/lang/Object;)Z"), (8, .class_ 43), (0, u "com/example/sure_paths/surepaths/model/NormalForm"), (0, u "(Ljava/lang/String;Ljava/lang/String;Ljava/lang/String;)V")] 27

def k3c0 : Code := { maxStack := 3, maxLocals := 4, code := prog_32_method_1_code, exceptionTable := #[], attributes := #[] }
def k3m0 : Method := { name := "<init>", desc := "(Ljava/lang/String;Ljava/lang/String;Ljava/lang/String;)V", sig := { parameters := [(.object "java/lang/String"), (.object "java/lang/String"), (.object "java/lang/String")], returnType := none }, accessFlags := 1, code := some k3c0 }
def k3c1 : Code := { maxStack := 2, maxLocals := 3, code := prog_32_method_5_code, exceptionTable := #[], attributes := #[] }
def k3m1 : Method := { name := "equals", desc := "(Ljava/lang/Object;)Z", sig := { parameters := [(.object "java/lang/Object")], returnType := some .boolean }, accessFlags := 1, code := some k3c1 }
/-- com/example/sure_paths/surepaths/model/ClassToExistential -/
def k3 : Class := { plain "com/example/sure_paths/surepaths/model/ClassToExistential" (some 0) with
  accessFlags := 49
  interfaces := #[2]
  cf := some (fileOf pool3 18 #[] #[{ accessFlags := 1, nameIndex := 5, descriptorIndex := 44, attributes := #[] }, { accessFlags := 1, nameIndex := 32, descriptorIndex := 33, attributes := #[] }] 49 2 #[42] #[{ accessFlags := 18, nameIndex := 8, descriptorIndex := 21, attributes := #[] }, { accessFlags := 18, nameIndex := 23, descriptorIndex := 21, attributes := #[] }, { accessFlags := 18, nameIndex := 27, descriptorIndex := 21, attributes := #[] }])
  fields := #[{ name := "subClass", type := (.object "java/lang/String"), accessFlags := 18, slot := 0, constantValue := 0 }, { name := "property", type := (.object "java/lang/String"), accessFlags := 18, slot := 1, constantValue := 0 }, { name := "filler", type := (.object "java/lang/String"), accessFlags := 18, slot := 2, constantValue := 0 }]
  methods := #[k3m0, k3m1]
  instanceTypes := #[(.object "java/lang/String"), (.object "java/lang/String"), (.object "java/lang/String")]
  staticTypes := #[]
  resolved := Array.replicate 72 none
  statics := none }

def pool4 : Array CpInfo := pool [(1, .class_ 2), (0, u "java/io/Serializable"), (0, .class_ 4), (0, u "java/lang/Object")] 2

/-- java/io/Serializable -/
def k4 : Class := { plain "java/io/Serializable" (some 0) with
  accessFlags := 1537
  interfaces := #[]
  cf := some (fileOf pool4 1 #[] #[] 1537 3 #[] #[])
  fields := #[]
  methods := #[]
  instanceTypes := #[]
  staticTypes := #[]
  resolved := Array.replicate 7 none
  statics := none }

def pool5 : Array CpInfo := pool [(1, .class_ 2), (0, u "java/lang/Comparable"), (0, .class_ 4), (0, u "java/lang/Object")] 7

/-- java/lang/Comparable -/
def k5 : Class := { plain "java/lang/Comparable" (some 0) with
  accessFlags := 1537
  interfaces := #[]
  cf := some (fileOf pool5 1 #[] #[] 1537 3 #[] #[])
  fields := #[]
  methods := #[]
  instanceTypes := #[]
  staticTypes := #[]
  resolved := Array.replicate 12 none
  statics := none }

def pool6 : Array CpInfo := pool [(2, .class_ 4), (1, u "java/lang/CharSequence"), (42, .class_ 48), (0, u "java/lang/CharSequence$1CodePointIterator"), (10, .class_ 60), (0, u "java/lang/CharSequence$1CharIterator"), (5, .class_ 67), (0, u "java/lang/Object")] 63

/-- java/lang/CharSequence -/
def k6 : Class := { plain "java/lang/CharSequence" (some 0) with
  accessFlags := 1537
  interfaces := #[]
  cf := some (fileOf pool6 2 #[.nestMembers #[47, 59]] #[] 1537 66 #[] #[])
  fields := #[]
  methods := #[]
  instanceTypes := #[]
  staticTypes := #[]
  resolved := Array.replicate 131 none
  statics := none }

def pool7 : Array CpInfo := pool [(1, .class_ 2), (0, u "java/lang/constant/Constable"), (0, .class_ 4), (0, u "java/lang/Object")] 6

/-- java/lang/constant/Constable -/
def k7 : Class := { plain "java/lang/constant/Constable" (some 0) with
  accessFlags := 1537
  interfaces := #[]
  cf := some (fileOf pool7 1 #[] #[] 1537 3 #[] #[])
  fields := #[]
  methods := #[]
  instanceTypes := #[]
  staticTypes := #[]
  resolved := Array.replicate 11 none
  statics := none }

def pool8 : Array CpInfo := pool [(1, .class_ 2), (0, u "java/lang/constant/ConstantDesc"), (0, .class_ 4), (0, u "java/lang/Object")] 32

/-- java/lang/constant/ConstantDesc -/
def k8 : Class := { plain "java/lang/constant/ConstantDesc" (some 0) with
  accessFlags := 1537
  interfaces := #[]
  cf := some (fileOf pool8 1 #[] #[] 1537 3 #[] #[])
  fields := #[]
  methods := #[]
  instanceTypes := #[]
  staticTypes := #[]
  resolved := Array.replicate 37 none
  statics := none }

def pool9 : Array CpInfo := pool [(1, .methodref 2 3), (0, .class_ 4), (0, .nameAndType 5 6), (0, u "java/lang/Object"), (0, u "<init>"), (0, u "()V"), (0, .string 8), (0, u ""), (0, .fieldref 10 11), (0, .class_ 12), (0, .nameAndType 13 14), (0, u "java/lang/String"), (0, u "value"), (0, u "[B"), (0, .fieldref 10 16), (0, .nameAndType 17 18), (0, u "coder"), (0, u "B"), (2, u "hash"), (0, u "I"), (2, u "hashIsZero"), (0, u "Z"), (0, .methodref 10 28), (0, .nameAndType 5 29), (0, u "([CIILjava/lang/Void;)V"), (8, .fieldref 10 39), (0, .nameAndType 40 26), (0, u "COMPACT_STRINGS"), (1, .class_ 44), (1, u "java/lang/StringUTF16"), (0, u "compress"), (1, .methodref 42 48), (0, .nameAndType 49 50), (0, u "coderFromArrayLen"), (0, u "([BI)B"), (56, .class_ 109), (1, u "java/lang/StringLatin1"), (67, .methodref 42 178), (0, .nameAndType 45 179), (0, u "([CII)[B"), (361, .methodref 107 542), (0, .nameAndType 543 544), (0, u "equals"), (0, u "([B[B)Z"), (28, u "(Ljava/lang/Object;)Z"), (1, .class_ 576), (0, u "java/lang/CharSequence"), (22, u "CASE_INSENSITIVE_ORDER"), (0, u "Ljava/util/Comparator;"), (409, u "([C)V"), (90, u "serialPersistentFields"), (0, u "[Ljava/io/ObjectStreamField;"), (0, .class_ 1104), (0, u "java/lang/String$CaseInsensitiveComparator"), (1, .class_ 1107), (0, u "java/io/Serializable"), (0, .class_ 1109), (0, u "java/lang/Comparable"), (0, .class_ 1111), (0, u "java/lang/constant/Constable"), (0, .class_ 1113), (0, u "java/lang/constant/ConstantDesc"), (2, u "serialVersionUID"), (0, u "J"), (3, u "REPL"), (0, u "C"), (2, u "LATIN1"), (1, u "UTF16")] 323

def k9m0 : Method := { name := "<init>", desc := "()V", sig := { parameters := [], returnType := none }, accessFlags := 1, code := none }
def k9c1 : Code := { maxStack := 5, maxLocals := 2, code := jdk_42_method_3_code, exceptionTable := #[], attributes := #[] }
def k9m1 : Method := { name := "<init>", desc := "([C)V", sig := { parameters := [(.array .char)], returnType := none }, accessFlags := 1, code := some k9c1 }
def k9c2 : Code := { maxStack := 2, maxLocals := 3, code := jdk_42_method_66_code, exceptionTable := #[], attributes := #[] }
def k9m2 : Method := { name := "equals", desc := "(Ljava/lang/Object;)Z", sig := { parameters := [(.object "java/lang/Object")], returnType := some .boolean }, accessFlags := 1, code := some k9c2 }
def k9c3 : Code := { maxStack := 4, maxLocals := 6, code := jdk_42_method_149_code, exceptionTable := #[], attributes := #[] }
def k9m3 : Method := { name := "<init>", desc := "([CIILjava/lang/Void;)V", sig := { parameters := [(.array .char), .int, .int, (.object "java/lang/Void")], returnType := none }, accessFlags := 2, code := some k9c3 }
/-- java/lang/String -/
def k9 : Class := { plain "java/lang/String" (some 0) with
  accessFlags := 49
  interfaces := #[4, 5, 6, 7, 8]
  cf := some (fileOf pool9 10 #[.nestMembers #[1103]] #[{ accessFlags := 1, nameIndex := 5, descriptorIndex := 6, attributes := #[] }, { accessFlags := 1, nameIndex := 5, descriptorIndex := 1010, attributes := #[] }, { accessFlags := 1, nameIndex := 543, descriptorIndex := 573, attributes := #[] }, { accessFlags := 2, nameIndex := 5, descriptorIndex := 29, attributes := #[] }] 49 2 #[1106, 1108, 575, 1110, 1112] #[{ accessFlags := 18, nameIndex := 13, descriptorIndex := 14, attributes := #[] }, { accessFlags := 18, nameIndex := 17, descriptorIndex := 18, attributes := #[] }, { accessFlags := 2, nameIndex := 21, descriptorIndex := 22, attributes := #[] }, { accessFlags := 2, nameIndex := 25, descriptorIndex := 26, attributes := #[] }, { accessFlags := 26, nameIndex := 1116, descriptorIndex := 1117, attributes := #[] }, { accessFlags := 24, nameIndex := 40, descriptorIndex := 26, attributes := #[] }, { accessFlags := 26, nameIndex := 1101, descriptorIndex := 1102, attributes := #[] }, { accessFlags := 26, nameIndex := 1121, descriptorIndex := 1122, attributes := #[] }, { accessFlags := 25, nameIndex := 599, descriptorIndex := 600, attributes := #[] }, { accessFlags := 24, nameIndex := 1125, descriptorIndex := 18, attributes := #[] }, { accessFlags := 24, nameIndex := 1127, descriptorIndex := 18, attributes := #[] }])
  fields := #[{ name := "value", type := (.array .byte), accessFlags := 18, slot := 0, constantValue := 0 }, { name := "coder", type := .byte, accessFlags := 18, slot := 1, constantValue := 0 }, { name := "hash", type := .int, accessFlags := 2, slot := 2, constantValue := 0 }, { name := "hashIsZero", type := .boolean, accessFlags := 2, slot := 3, constantValue := 0 }, { name := "serialVersionUID", type := .long, accessFlags := 26, slot := 0, constantValue := 0 }, { name := "COMPACT_STRINGS", type := .boolean, accessFlags := 24, slot := 1, constantValue := 0 }, { name := "serialPersistentFields", type := (.array (.object "java/io/ObjectStreamField")), accessFlags := 26, slot := 2, constantValue := 0 }, { name := "REPL", type := .char, accessFlags := 26, slot := 3, constantValue := 0 }, { name := "CASE_INSENSITIVE_ORDER", type := (.object "java/util/Comparator"), accessFlags := 25, slot := 4, constantValue := 0 }, { name := "LATIN1", type := .byte, accessFlags := 24, slot := 5, constantValue := 0 }, { name := "UTF16", type := .byte, accessFlags := 24, slot := 6, constantValue := 0 }]
  methods := #[k9m0, k9m1, k9m2, k9m3]
  instanceTypes := #[(.array .byte), .byte, .int, .boolean]
  staticTypes := #[.long, .boolean, (.array (.object "java/io/ObjectStreamField")), .char, (.object "java/util/Comparator"), .byte, .byte]
  resolved := Array.replicate 1451 none
  statics := some 0 }

def pool10 : Array CpInfo := pool [(2, .class_ 4), (1, u "java/lang/Object"), (0, u "<init>"), (0, u "()V"), (35, .class_ 44), (1, u "java/util/Objects"), (0, u "requireNonNull"), (48, u "(Ljava/lang/Object;Ljava/lang/String;)Ljava/lang/Object;")] 89

def k10m0 : Method := { name := "<init>", desc := "()V", sig := { parameters := [], returnType := none }, accessFlags := 2, code := none }
def k10c1 : Code := { maxStack := 3, maxLocals := 2, code := jdk_31_method_11_code, exceptionTable := #[], attributes := #[] }
def k10m1 : Method := { name := "requireNonNull", desc := "(Ljava/lang/Object;Ljava/lang/String;)Ljava/lang/Object;", sig := { parameters := [(.object "java/lang/Object"), (.object "java/lang/String")], returnType := some (.object "java/lang/Object") }, accessFlags := 9, code := some k10c1 }
/-- java/util/Objects -/
def k10 : Class := { plain "java/util/Objects" (some 0) with
  accessFlags := 49
  interfaces := #[]
  cf := some (fileOf pool10 42 #[] #[{ accessFlags := 2, nameIndex := 5, descriptorIndex := 6, attributes := #[] }, { accessFlags := 9, nameIndex := 45, descriptorIndex := 94, attributes := #[] }] 49 2 #[] #[])
  fields := #[]
  methods := #[k10m0, k10m1]
  instanceTypes := #[]
  staticTypes := #[]
  resolved := Array.replicate 184 none
  statics := none }

def pool11 : Array CpInfo := pool [(4, .class_ 6), (1, u "java/lang/Object"), (0, u "<init>"), (0, u "()V"), (5, .class_ 16), (1, u "java/lang/StringLatin1"), (104, u "$assertionsDisabled"), (0, u "Z"), (98, .class_ 223), (1, u "java/lang/StringLatin1$LinesSpliterator"), (57, u "equals"), (0, u "([B[B)Z"), (107, .class_ 391), (0, u "java/lang/StringLatin1$CharsSpliterator")] 3

def k11m0 : Method := { name := "<init>", desc := "()V", sig := { parameters := [], returnType := none }, accessFlags := 0, code := none }
def k11c1 : Code := { maxStack := 3, maxLocals := 3, code := jdk_43_method_13_code, exceptionTable := #[], attributes := #[] }
def k11m1 : Method := { name := "equals", desc := "([B[B)Z", sig := { parameters := [(.array .byte), (.array .byte)], returnType := some .boolean }, accessFlags := 9, code := some k11c1 }
/-- java/lang/StringLatin1 -/
def k11 : Class := { plain "java/lang/StringLatin1" (some 0) with
  accessFlags := 48
  interfaces := #[]
  cf := some (fileOf pool11 14 #[.nestMembers #[390, 221]] #[{ accessFlags := 0, nameIndex := 7, descriptorIndex := 8, attributes := #[] }, { accessFlags := 9, nameIndex := 281, descriptorIndex := 282, attributes := #[] }] 48 4 #[] #[{ accessFlags := 4120, nameIndex := 121, descriptorIndex := 122, attributes := #[] }])
  fields := #[{ name := "$assertionsDisabled", type := .boolean, accessFlags := 4120, slot := 0, constantValue := 0 }]
  methods := #[k11m0, k11m1]
  instanceTypes := #[]
  staticTypes := #[.boolean]
  resolved := Array.replicate 395 none
  statics := none }

def pool12 : Array CpInfo := pool [(1, .methodref 2 3), (0, .class_ 4), (0, .nameAndType 5 6), (0, u "java/lang/Object"), (0, u "<init>"), (0, u "()V"), (0, .string 8), (0, u "subClass"), (0, .methodref 10 11), (0, .class_ 12), (0, .nameAndType 13 14), (0, u "java/util/Objects"), (0, u "requireNonNull"), (0, u "(Ljava/lang/Object;Ljava/lang/String;)Ljava/lang/Object;"), (0, .class_ 16), (0, u "java/lang/String"), (0, .fieldref 18 19), (0, .class_ 20), (0, .nameAndType 8 21), (0, u "com/example/sure_paths/surepaths/model/ClassInclusion"), (0, u "Ljava/lang/String;"), (0, .string 23), (0, u "superClass"), (0, .fieldref 18 25), (0, .nameAndType 23 21), (12, .class_ 39), (0, u "com/example/sure_paths/surepaths/model/NormalForm"), (0, u "(Ljava/lang/String;Ljava/lang/String;)V")] 26

def k12c0 : Code := { maxStack := 3, maxLocals := 3, code := prog_31_method_1_code, exceptionTable := #[], attributes := #[] }
def k12m0 : Method := { name := "<init>", desc := "(Ljava/lang/String;Ljava/lang/String;)V", sig := { parameters := [(.object "java/lang/String"), (.object "java/lang/String")], returnType := none }, accessFlags := 1, code := some k12c0 }
/-- com/example/sure_paths/surepaths/model/ClassInclusion -/
def k12 : Class := { plain "com/example/sure_paths/surepaths/model/ClassInclusion" (some 0) with
  accessFlags := 49
  interfaces := #[2]
  cf := some (fileOf pool12 18 #[] #[{ accessFlags := 1, nameIndex := 5, descriptorIndex := 40, attributes := #[] }] 49 2 #[38] #[{ accessFlags := 18, nameIndex := 8, descriptorIndex := 21, attributes := #[] }, { accessFlags := 18, nameIndex := 23, descriptorIndex := 21, attributes := #[] }])
  fields := #[{ name := "subClass", type := (.object "java/lang/String"), accessFlags := 18, slot := 0, constantValue := 0 }, { name := "superClass", type := (.object "java/lang/String"), accessFlags := 18, slot := 1, constantValue := 0 }]
  methods := #[k12m0]
  instanceTypes := #[(.object "java/lang/String"), (.object "java/lang/String")]
  staticTypes := #[]
  resolved := Array.replicate 67 none
  statics := none }

def pool13 : Array CpInfo := pool [(6, .class_ 8), (1, u "java/lang/Object"), (0, u "<init>"), (0, u "()V"), (1, .class_ 14), (1, u "java/lang/StringUTF16"), (31, u "$assertionsDisabled"), (0, u "Z"), (13, u "HI_BYTE_SHIFT"), (0, u "I"), (2, u "LO_BYTE_SHIFT"), (49, .methodref 12 116), (0, .nameAndType 117 118), (0, u "compress"), (0, u "([CI[BII)I"), (3, u "([CII)[B"), (138, u "coderFromArrayLen"), (0, u "([BI)B"), (106, .class_ 371), (1, u "java/lang/StringUTF16$LinesSpliterator"), (58, u "MAX_LENGTH"), (196, .class_ 628), (0, u "java/lang/StringUTF16$CodePointsSpliterator"), (0, .class_ 630), (0, u "java/lang/StringUTF16$CharsSpliterator")] 4

def k13m0 : Method := { name := "<init>", desc := "()V", sig := { parameters := [], returnType := none }, accessFlags := 0, code := none }
def k13c1 : Code := { maxStack := 2, maxLocals := 2, code := jdk_52_method_15_code, exceptionTable := #[], attributes := #[] }
def k13m1 : Method := { name := "coderFromArrayLen", desc := "([BI)B", sig := { parameters := [(.array .byte), .int], returnType := some .byte }, accessFlags := 8, code := some k13c1 }
def k13c2 : Code := { maxStack := 5, maxLocals := 6, code := jdk_52_method_16_code, exceptionTable := #[], attributes := #[] }
def k13m2 : Method := { name := "compress", desc := "([CII)[B", sig := { parameters := [(.array .char), .int, .int], returnType := some (.array .byte) }, accessFlags := 9, code := some k13c2 }
def k13c3 : Code := { maxStack := 3, maxLocals := 7, code := jdk_52_method_21_code, exceptionTable := #[], attributes := #[] }
def k13m3 : Method := { name := "compress", desc := "([CI[BII)I", sig := { parameters := [(.array .char), .int, (.array .byte), .int, .int], returnType := some .int }, accessFlags := 9, code := some k13c3 }
/-- java/lang/StringUTF16 -/
def k13 : Class := { plain "java/lang/StringUTF16" (some 0) with
  accessFlags := 48
  interfaces := #[]
  cf := some (fileOf pool13 12 #[.nestMembers #[627, 629, 369]] #[{ accessFlags := 0, nameIndex := 9, descriptorIndex := 10, attributes := #[] }, { accessFlags := 8, nameIndex := 261, descriptorIndex := 262, attributes := #[] }, { accessFlags := 9, nameIndex := 117, descriptorIndex := 122, attributes := #[] }, { accessFlags := 9, nameIndex := 117, descriptorIndex := 118, attributes := #[] }] 48 6 #[] #[{ accessFlags := 26, nameIndex := 61, descriptorIndex := 62, attributes := #[] }, { accessFlags := 26, nameIndex := 65, descriptorIndex := 62, attributes := #[] }, { accessFlags := 24, nameIndex := 430, descriptorIndex := 62, attributes := #[] }, { accessFlags := 4120, nameIndex := 46, descriptorIndex := 47, attributes := #[] }])
  fields := #[{ name := "HI_BYTE_SHIFT", type := .int, accessFlags := 26, slot := 0, constantValue := 0 }, { name := "LO_BYTE_SHIFT", type := .int, accessFlags := 26, slot := 1, constantValue := 0 }, { name := "MAX_LENGTH", type := .int, accessFlags := 24, slot := 2, constantValue := 0 }, { name := "$assertionsDisabled", type := .boolean, accessFlags := 4120, slot := 3, constantValue := 0 }]
  methods := #[k13m0, k13m1, k13m2, k13m3]
  instanceTypes := #[]
  staticTypes := #[.int, .int, .int, .boolean]
  resolved := Array.replicate 635 none
  statics := none }

def pool14 : Array CpInfo := pool [(2, .class_ 4), (1, u "java/lang/Object"), (0, u "<init>"), (0, u "()V"), (17, .class_ 26), (1, u "jdk/internal/util/Preconditions"), (28, .class_ 56), (0, u "jdk/internal/util/Preconditions$4"), (57, .class_ 115), (0, u "jdk/internal/util/Preconditions$1"), (7, u "SIOOBE_FORMATTER"), (0, u "Ljava/util/function/BiFunction;"), (0, .class_ 126), (0, u "jdk/internal/util/Preconditions$2"), (3, u "AIOOBE_FORMATTER"), (0, .class_ 132), (0, u "jdk/internal/util/Preconditions$3"), (3, u "IOOBE_FORMATTER")] 57

def k14m0 : Method := { name := "<init>", desc := "()V", sig := { parameters := [], returnType := none }, accessFlags := 1, code := none }
/-- jdk/internal/util/Preconditions -/
def k14 : Class := { plain "jdk/internal/util/Preconditions" (some 0) with
  accessFlags := 33
  interfaces := #[]
  cf := some (fileOf pool14 24 #[.nestMembers #[55, 131, 125, 114]] #[{ accessFlags := 1, nameIndex := 5, descriptorIndex := 6, attributes := #[] }] 33 2 #[] #[{ accessFlags := 25, nameIndex := 123, descriptorIndex := 124, attributes := #[] }, { accessFlags := 25, nameIndex := 130, descriptorIndex := 124, attributes := #[] }, { accessFlags := 25, nameIndex := 136, descriptorIndex := 124, attributes := #[] }])
  fields := #[{ name := "SIOOBE_FORMATTER", type := (.object "java/util/function/BiFunction"), accessFlags := 25, slot := 0, constantValue := 0 }, { name := "AIOOBE_FORMATTER", type := (.object "java/util/function/BiFunction"), accessFlags := 25, slot := 1, constantValue := 0 }, { name := "IOOBE_FORMATTER", type := (.object "java/util/function/BiFunction"), accessFlags := 25, slot := 2, constantValue := 0 }]
  methods := #[k14m0]
  instanceTypes := #[]
  staticTypes := #[(.object "java/util/function/BiFunction"), (.object "java/util/function/BiFunction"), (.object "java/util/function/BiFunction")]
  resolved := Array.replicate 194 none
  statics := some 1 }

def pool15 : Array CpInfo := pool [(9, u "<init>"), (6, .class_ 18), (1, u "java/lang/Object"), (0, u "()V"), (1, .class_ 23), (1, u "jdk/internal/util/ArraysSupport"), (0, u "LOG2_ARRAY_LONG_INDEX_SCALE"), (0, u "I"), (2, u "U"), (0, u "Ljdk/internal/misc/Unsafe;"), (8, u "BIG_ENDIAN"), (0, u "Z"), (8, u "LOG2_BYTE_BIT_SIZE"), (4, u "LOG2_ARRAY_INT_INDEX_SCALE"), (54, u "JLA"), (0, u "Ljdk/internal/access/JavaLangAccess;"), (11, u "LOG2_ARRAY_BOOLEAN_INDEX_SCALE"), (9, u "LOG2_ARRAY_BYTE_INDEX_SCALE"), (5, u "LOG2_ARRAY_CHAR_INDEX_SCALE"), (5, u "LOG2_ARRAY_SHORT_INDEX_SCALE"), (18, u "LOG2_ARRAY_FLOAT_INDEX_SCALE"), (24, u "LOG2_ARRAY_DOUBLE_INDEX_SCALE"), (89, u "T_BOOLEAN"), (2, u "T_CHAR"), (1, u "T_FLOAT"), (1, u "T_DOUBLE"), (1, u "T_BYTE"), (1, u "T_SHORT"), (1, u "T_INT"), (1, u "T_LONG"), (1, u "SOFT_MAX_ARRAY_LENGTH")] 83

def k15m0 : Method := { name := "<init>", desc := "()V", sig := { parameters := [], returnType := none }, accessFlags := 2, code := none }
/-- jdk/internal/util/ArraysSupport -/
def k15 : Class := { plain "jdk/internal/util/ArraysSupport" (some 0) with
  accessFlags := 33
  interfaces := #[]
  cf := some (fileOf pool15 21 #[] #[{ accessFlags := 2, nameIndex := 9, descriptorIndex := 19, attributes := #[] }] 33 16 #[] #[{ accessFlags := 24, nameIndex := 28, descriptorIndex := 29, attributes := #[] }, { accessFlags := 26, nameIndex := 38, descriptorIndex := 39, attributes := #[] }, { accessFlags := 25, nameIndex := 121, descriptorIndex := 25, attributes := #[] }, { accessFlags := 25, nameIndex := 131, descriptorIndex := 25, attributes := #[] }, { accessFlags := 25, nameIndex := 137, descriptorIndex := 25, attributes := #[] }, { accessFlags := 25, nameIndex := 143, descriptorIndex := 25, attributes := #[] }, { accessFlags := 25, nameIndex := 53, descriptorIndex := 25, attributes := #[] }, { accessFlags := 25, nameIndex := 24, descriptorIndex := 25, attributes := #[] }, { accessFlags := 25, nameIndex := 162, descriptorIndex := 25, attributes := #[] }, { accessFlags := 25, nameIndex := 187, descriptorIndex := 25, attributes := #[] }, { accessFlags := 26, nameIndex := 48, descriptorIndex := 25, attributes := #[] }, { accessFlags := 25, nameIndex := 277, descriptorIndex := 25, attributes := #[] }, { accessFlags := 25, nameIndex := 280, descriptorIndex := 25, attributes := #[] }, { accessFlags := 25, nameIndex := 282, descriptorIndex := 25, attributes := #[] }, { accessFlags := 25, nameIndex := 284, descriptorIndex := 25, attributes := #[] }, { accessFlags := 25, nameIndex := 286, descriptorIndex := 25, attributes := #[] }, { accessFlags := 25, nameIndex := 288, descriptorIndex := 25, attributes := #[] }, { accessFlags := 25, nameIndex := 290, descriptorIndex := 25, attributes := #[] }, { accessFlags := 25, nameIndex := 292, descriptorIndex := 25, attributes := #[] }, { accessFlags := 26, nameIndex := 108, descriptorIndex := 109, attributes := #[] }, { accessFlags := 25, nameIndex := 294, descriptorIndex := 25, attributes := #[] }])
  fields := #[{ name := "U", type := (.object "jdk/internal/misc/Unsafe"), accessFlags := 24, slot := 0, constantValue := 0 }, { name := "BIG_ENDIAN", type := .boolean, accessFlags := 26, slot := 1, constantValue := 0 }, { name := "LOG2_ARRAY_BOOLEAN_INDEX_SCALE", type := .int, accessFlags := 25, slot := 2, constantValue := 0 }, { name := "LOG2_ARRAY_BYTE_INDEX_SCALE", type := .int, accessFlags := 25, slot := 3, constantValue := 0 }, { name := "LOG2_ARRAY_CHAR_INDEX_SCALE", type := .int, accessFlags := 25, slot := 4, constantValue := 0 }, { name := "LOG2_ARRAY_SHORT_INDEX_SCALE", type := .int, accessFlags := 25, slot := 5, constantValue := 0 }, { name := "LOG2_ARRAY_INT_INDEX_SCALE", type := .int, accessFlags := 25, slot := 6, constantValue := 0 }, { name := "LOG2_ARRAY_LONG_INDEX_SCALE", type := .int, accessFlags := 25, slot := 7, constantValue := 0 }, { name := "LOG2_ARRAY_FLOAT_INDEX_SCALE", type := .int, accessFlags := 25, slot := 8, constantValue := 0 }, { name := "LOG2_ARRAY_DOUBLE_INDEX_SCALE", type := .int, accessFlags := 25, slot := 9, constantValue := 0 }, { name := "LOG2_BYTE_BIT_SIZE", type := .int, accessFlags := 26, slot := 10, constantValue := 0 }, { name := "T_BOOLEAN", type := .int, accessFlags := 25, slot := 11, constantValue := 0 }, { name := "T_CHAR", type := .int, accessFlags := 25, slot := 12, constantValue := 0 }, { name := "T_FLOAT", type := .int, accessFlags := 25, slot := 13, constantValue := 0 }, { name := "T_DOUBLE", type := .int, accessFlags := 25, slot := 14, constantValue := 0 }, { name := "T_BYTE", type := .int, accessFlags := 25, slot := 15, constantValue := 0 }, { name := "T_SHORT", type := .int, accessFlags := 25, slot := 16, constantValue := 0 }, { name := "T_INT", type := .int, accessFlags := 25, slot := 17, constantValue := 0 }, { name := "T_LONG", type := .int, accessFlags := 25, slot := 18, constantValue := 0 }, { name := "JLA", type := (.object "jdk/internal/access/JavaLangAccess"), accessFlags := 26, slot := 19, constantValue := 0 }, { name := "SOFT_MAX_ARRAY_LENGTH", type := .int, accessFlags := 25, slot := 20, constantValue := 0 }]
  methods := #[k15m0]
  instanceTypes := #[]
  staticTypes := #[(.object "jdk/internal/misc/Unsafe"), .boolean, .int, .int, .int, .int, .int, .int, .int, .int, .int, .int, .int, .int, .int, .int, .int, .int, .int, (.object "jdk/internal/access/JavaLangAccess"), .int]
  resolved := Array.replicate 378 none
  statics := none }

def pool16 : Array CpInfo := pool [(1, u "java/lang/Cloneable"), (0, .class_ 1), (0, u "java/lang/Object"), (0, .class_ 3)] 3

/-- java/lang/Cloneable -/
def k16 : Class := { plain "java/lang/Cloneable" (some 0) with
  accessFlags := 1537
  interfaces := #[]
  cf := some (fileOf pool16 2 #[] #[] 1537 4 #[] #[])
  fields := #[]
  methods := #[]
  instanceTypes := #[]
  staticTypes := #[]
  resolved := Array.replicate 8 none
  statics := none }

/-- the primitive byte -/
def k17 : Class := { plain "byte" none with kind := .primitive 'B', accessFlags := 0x411 }
/-- [B -/
def k18 : Class := { plain "[B" (some 0) with kind := .array 17 .byte, interfaces := #[16, 4], accessFlags := 1041 }

/-- the primitive char -/
def k19 : Class := { plain "char" none with kind := .primitive 'C', accessFlags := 0x411 }
/-- [C -/
def k20 : Class := { plain "[C" (some 0) with kind := .array 19 .char, interfaces := #[16, 4], accessFlags := 1041 }

/-- the primitive int -/
def k21 : Class := { plain "int" none with kind := .primitive 'I', accessFlags := 0x411 }
/-- [I -/
def k22 : Class := { plain "[I" (some 0) with kind := .array 21 .int, interfaces := #[16, 4], accessFlags := 1041 }

def heap : Heap := #[{ cls := 9, slots := #[.long 0, .int 1, .null, .int 0, .null, .int 0, .int 0], vm := .statics 9 },
  { cls := 14, slots := #[.null, .null, .null], vm := .statics 14 }]
def classes : Array Class := #[k0, k1, k2, k3, k4, k5, k6, k7, k8, k9, k10, k11, k12, k13, k14, k15, k16, k17, k18, k19, k20, k21, k22]
def interned : List (Array UInt16 × Addr) := []
def slotsUsed : Nat := 10
def theMethod : MethodId := ⟨1, 4⟩
def args0 : Array Value := #[.int 5, .int 6, .int 7, .int 1, .int 2, .int 3]
def aboutOver (below : List Frame) : State where
  vm := { classes := classes, interned := interned.toArray }
  heap := heap
  slotsUsed := slotsUsed
  threads := #[{ frames := .invoking theMethod args0 :: below }]
def below0 : List Frame := [.native { method := ⟨0, 0⟩, args := #[] }]
def about1 : State := aboutOver below0
def p0 : Program := .bare "" "" ""
def e0 : Env := launch0.env 0 0 0
theorem w_frames : about1.frames = Frame.invoking theMethod args0 :: below0 := rfl
set_option maxRecDepth 65536 in
theorem w_args : argsFit about1.vm theMethod args0 = true := by decide +kernel
set_option maxRecDepth 65536 in
theorem w_heap : heapFits about1 = true := by decide +kernel
set_option maxRecDepth 65536 in
theorem w_runnable : about1.curStatus? = some .runnable := by decide +kernel
set_option maxRecDepth 65536 in
theorem w_alone : about1.alone = true := by decide +kernel
set_option maxRecDepth 65536 in
theorem w_named : about1.methodNamed? x = some theMethod := by decide +kernel
set_option maxRecDepth 65536 in
theorem w_hears : about1.hears theMethod below0 = true := by decide +kernel
set_option maxRecDepth 65536 in
theorem w_ripe : about1.ripe theMethod args0 below0 = true := by decide +kernel
theorem w_running : about1.status = .running := rfl
set_option maxRecDepth 65536 in
theorem w_room : about1.hasRoom e0.platform room_1 = true :=
  launch0.hasRoom_least _ room_1 (by decide +kernel) (by decide +kernel) (by decide +kernel) (by decide +kernel) (by decide +kernel) (by decide +kernel)
theorem allAtoms_all (ts : List Jvm.Cond) (a : Array Jvm.Value) (st : Jvm.State) : (allAtoms ts).before a st = ts.all (fun c => c.before a st) := by
  induction ts with
  | nil => rfl
  | cons c t ih =>
    show (Jvm.Cond.and c (allAtoms t)).before a st = _
    rw [Jvm.Cond.before_and, ih, List.all_cons]
def words1 : List Jvm.Cond := Jvm.Cond.code x code maxLocals ret :: tables_1
/-- a 'code' word, met by the world's own term for the bytes: nothing is compared byte by byte -/
theorem code_word {y : MethodName} {bytes : ByteArray} {mx : Nat} {rt : Option FieldType} {a : Array Value} {s : State} {m : MethodId} {meth : Method} {c : Code} (h1 : s.methodNamed? y = some m) (h2 : s.vm.method? m = some meth) (h3 : meth.code = some c) (h4 : c.code = bytes)
    (h5 : (c.maxLocals == mx && c.exceptionTable.isEmpty && decide (c.maxStack ≤ mostOperands) && decide (meth.sig.returnType = rt) && !meth.locks && decide (parseMethodDescriptor y.desc = some meth.sig)) = true) : (Jvm.Cond.code y bytes mx rt).before a s = true := by
  simp only [Bool.and_eq_true, beq_iff_eq, Bool.not_eq_true', decide_eq_true_eq] at h5
  obtain ⟨⟨⟨⟨⟨g1, g2⟩, g3⟩, g4⟩, g5⟩, g6⟩ := h5
  simp [Cond.before, Cond.holds, Cond.value, h1, h2, h3, h4, g1, g2, g3, g4, g5, g6]
def isCode : Jvm.Cond → Bool
  | .code _ _ _ _ => true
  | _ => false
theorem all_split {L : List Jvm.Cond} {P : Jvm.Cond → Bool} (h1 : L.all (fun c => isCode c || P c) = true) (h2 : ∀ c ∈ L.filter isCode, P c = true) : L.all P = true := by
  refine List.all_eq_true.mpr fun c hc => ?_
  have h := List.all_eq_true.mp h1 c hc
  rcases Bool.eq_false_or_eq_true (isCode c) with hi | hi
  · exact h2 c (List.mem_filter.mpr ⟨hc, hi⟩)
  · simpa [hi] using h
set_option maxRecDepth 65536 in
theorem w_c0 : (Jvm.Cond.code x code maxLocals ret).before args0 about1 = true := code_word (m := ⟨1, 4⟩) (meth := k1m4) (c := k1c4) (by decide +kernel) rfl rfl rfl (by decide +kernel)
set_option maxRecDepth 65536 in
theorem w_c1 : (Jvm.Cond.code ({ cls := "com/example/sure_paths/surepaths/model/ClassToExistentialEqualsPinLaw", name := "str", desc := "(I)Ljava/lang/String;" } : Jvm.MethodName) method_3_code (5 : Nat) (Option.some (Jvm.ClassFile.FieldType.object "java/lang/String"))).before args0 about1 = true := code_word (m := ⟨1, 2⟩) (meth := k1m2) (c := k1c2) (by decide +kernel) rfl rfl rfl (by decide +kernel)
set_option maxRecDepth 65536 in
theorem w_c2 : (Jvm.Cond.code ({ cls := "com/example/sure_paths/surepaths/model/ClassToExistentialEqualsPinLaw", name := "len", desc := "(I)I" } : Jvm.MethodName) method_2_code (1 : Nat) (Option.some Jvm.ClassFile.FieldType.int)).before args0 about1 = true := code_word (m := ⟨1, 1⟩) (meth := k1m1) (c := k1c1) (by decide +kernel) rfl rfl rfl (by decide +kernel)
set_option maxRecDepth 65536 in
theorem w_c3 : (Jvm.Cond.code ({ cls := "java/lang/String", name := "<init>", desc := "([C)V" } : Jvm.MethodName) jdk_42_method_3_code (2 : Nat) (Option.none : Option Jvm.ClassFile.FieldType)).before args0 about1 = true := code_word (m := ⟨9, 1⟩) (meth := k9m1) (c := k9c1) (by decide +kernel) rfl rfl rfl (by decide +kernel)
set_option maxRecDepth 65536 in
theorem w_c4 : (Jvm.Cond.code ({ cls := "java/lang/String", name := "<init>", desc := "([CIILjava/lang/Void;)V" } : Jvm.MethodName) jdk_42_method_149_code (6 : Nat) (Option.none : Option Jvm.ClassFile.FieldType)).before args0 about1 = true := code_word (m := ⟨9, 3⟩) (meth := k9m3) (c := k9c3) (by decide +kernel) rfl rfl rfl (by decide +kernel)
set_option maxRecDepth 65536 in
theorem w_c5 : (Jvm.Cond.code ({ cls := "java/lang/Object", name := "<init>", desc := "()V" } : Jvm.MethodName) object_method_1_code (1 : Nat) (Option.none : Option Jvm.ClassFile.FieldType)).before args0 about1 = true := code_word (m := ⟨0, 0⟩) (meth := k0m0) (c := k0c0) (by decide +kernel) rfl rfl rfl (by decide +kernel)
set_option maxRecDepth 65536 in
theorem w_c6 : (Jvm.Cond.code ({ cls := "com/example/sure_paths/surepaths/model/ClassToExistential", name := "<init>", desc := "(Ljava/lang/String;Ljava/lang/String;Ljava/lang/String;)V" } : Jvm.MethodName) prog_32_method_1_code (4 : Nat) (Option.none : Option Jvm.ClassFile.FieldType)).before args0 about1 = true := code_word (m := ⟨3, 0⟩) (meth := k3m0) (c := k3c0) (by decide +kernel) rfl rfl rfl (by decide +kernel)
set_option maxRecDepth 65536 in
theorem w_c7 : (Jvm.Cond.code ({ cls := "java/util/Objects", name := "requireNonNull", desc := "(Ljava/lang/Object;Ljava/lang/String;)Ljava/lang/Object;" } : Jvm.MethodName) jdk_31_method_11_code (2 : Nat) (Option.some (Jvm.ClassFile.FieldType.object "java/lang/Object"))).before args0 about1 = true := code_word (m := ⟨10, 1⟩) (meth := k10m1) (c := k10c1) (by decide +kernel) rfl rfl rfl (by decide +kernel)
set_option maxRecDepth 65536 in
theorem w_c8 : (Jvm.Cond.code ({ cls := "com/example/sure_paths/surepaths/model/ClassToExistentialEqualsPinLaw", name := "norm", desc := "(I)I" } : Jvm.MethodName) method_4_code (2 : Nat) (Option.some Jvm.ClassFile.FieldType.int)).before args0 about1 = true := code_word (m := ⟨1, 3⟩) (meth := k1m3) (c := k1c3) (by decide +kernel) rfl rfl rfl (by decide +kernel)
set_option maxRecDepth 65536 in
theorem w_c9 : (Jvm.Cond.code ({ cls := "com/example/sure_paths/surepaths/model/ClassToExistential", name := "equals", desc := "(Ljava/lang/Object;)Z" } : Jvm.MethodName) prog_32_method_5_code (3 : Nat) (Option.some Jvm.ClassFile.FieldType.boolean)).before args0 about1 = true := code_word (m := ⟨3, 1⟩) (meth := k3m1) (c := k3c1) (by decide +kernel) rfl rfl rfl (by decide +kernel)
set_option maxRecDepth 65536 in
theorem w_c10 : (Jvm.Cond.code ({ cls := "java/lang/String", name := "equals", desc := "(Ljava/lang/Object;)Z" } : Jvm.MethodName) jdk_42_method_66_code (3 : Nat) (Option.some Jvm.ClassFile.FieldType.boolean)).before args0 about1 = true := code_word (m := ⟨9, 2⟩) (meth := k9m2) (c := k9c2) (by decide +kernel) rfl rfl rfl (by decide +kernel)
set_option maxRecDepth 65536 in
theorem w_c11 : (Jvm.Cond.code ({ cls := "java/lang/StringLatin1", name := "equals", desc := "([B[B)Z" } : Jvm.MethodName) jdk_43_method_13_code (3 : Nat) (Option.some Jvm.ClassFile.FieldType.boolean)).before args0 about1 = true := code_word (m := ⟨11, 1⟩) (meth := k11m1) (c := k11c1) (by decide +kernel) rfl rfl rfl (by decide +kernel)
set_option maxRecDepth 65536 in
theorem w_c12 : (Jvm.Cond.code ({ cls := "com/example/sure_paths/surepaths/model/ClassInclusion", name := "<init>", desc := "(Ljava/lang/String;Ljava/lang/String;)V" } : Jvm.MethodName) prog_31_method_1_code (3 : Nat) (Option.none : Option Jvm.ClassFile.FieldType)).before args0 about1 = true := code_word (m := ⟨12, 0⟩) (meth := k12m0) (c := k12c0) (by decide +kernel) rfl rfl rfl (by decide +kernel)
set_option maxRecDepth 65536 in
theorem w_c13 : (Jvm.Cond.code ({ cls := "java/lang/StringUTF16", name := "compress", desc := "([CII)[B" } : Jvm.MethodName) jdk_52_method_16_code (6 : Nat) (Option.some (Jvm.ClassFile.FieldType.array Jvm.ClassFile.FieldType.byte))).before args0 about1 = true := code_word (m := ⟨13, 2⟩) (meth := k13m2) (c := k13c2) (by decide +kernel) rfl rfl rfl (by decide +kernel)
set_option maxRecDepth 65536 in
theorem w_c14 : (Jvm.Cond.code ({ cls := "java/lang/StringUTF16", name := "compress", desc := "([CI[BII)I" } : Jvm.MethodName) jdk_52_method_21_code (7 : Nat) (Option.some Jvm.ClassFile.FieldType.int)).before args0 about1 = true := code_word (m := ⟨13, 3⟩) (meth := k13m3) (c := k13c3) (by decide +kernel) rfl rfl rfl (by decide +kernel)
set_option maxRecDepth 65536 in
theorem w_c15 : (Jvm.Cond.code ({ cls := "java/lang/StringUTF16", name := "coderFromArrayLen", desc := "([BI)B" } : Jvm.MethodName) jdk_52_method_15_code (2 : Nat) (Option.some Jvm.ClassFile.FieldType.byte)).before args0 about1 = true := code_word (m := ⟨13, 1⟩) (meth := k13m1) (c := k13c1) (by decide +kernel) rfl rfl rfl (by decide +kernel)
def codes1 : List Jvm.Cond := [Jvm.Cond.code x code maxLocals ret, Jvm.Cond.code ({ cls := "com/example/sure_paths/surepaths/model/ClassToExistentialEqualsPinLaw", name := "str", desc := "(I)Ljava/lang/String;" } : Jvm.MethodName) method_3_code (5 : Nat) (Option.some (Jvm.ClassFile.FieldType.object "java/lang/String")), Jvm.Cond.code ({ cls := "com/example/sure_paths/surepaths/model/ClassToExistentialEqualsPinLaw", name := "len", desc := "(I)I" } : Jvm.MethodName) method_2_code (1 : Nat) (Option.some Jvm.ClassFile.FieldType.int), Jvm.Cond.code ({ cls := "java/lang/String", name := "<init>", desc := "([C)V" } : Jvm.MethodName) jdk_42_method_3_code (2 : Nat) (Option.none : Option Jvm.ClassFile.FieldType), Jvm.Cond.code ({ cls := "java/lang/String", name := "<init>", desc := "([CIILjava/lang/Void;)V" } : Jvm.MethodName) jdk_42_method_149_code (6 : Nat) (Option.none : Option Jvm.ClassFile.FieldType), Jvm.Cond.code ({ cls := "java/lang/Object", name := "<init>", desc := "()V" } : Jvm.MethodName) object_method_1_code (1 : Nat) (Option.none : Option Jvm.ClassFile.FieldType), Jvm.Cond.code ({ cls := "com/example/sure_paths/surepaths/model/ClassToExistential", name := "<init>", desc := "(Ljava/lang/String;Ljava/lang/String;Ljava/lang/String;)V" } : Jvm.MethodName) prog_32_method_1_code (4 : Nat) (Option.none : Option Jvm.ClassFile.FieldType), Jvm.Cond.code ({ cls := "java/util/Objects", name := "requireNonNull", desc := "(Ljava/lang/Object;Ljava/lang/String;)Ljava/lang/Object;" } : Jvm.MethodName) jdk_31_method_11_code (2 : Nat) (Option.some (Jvm.ClassFile.FieldType.object "java/lang/Object")), Jvm.Cond.code ({ cls := "com/example/sure_paths/surepaths/model/ClassToExistentialEqualsPinLaw", name := "norm", desc := "(I)I" } : Jvm.MethodName) method_4_code (2 : Nat) (Option.some Jvm.ClassFile.FieldType.int), Jvm.Cond.code ({ cls := "com/example/sure_paths/surepaths/model/ClassToExistential", name := "equals", desc := "(Ljava/lang/Object;)Z" } : Jvm.MethodName) prog_32_method_5_code (3 : Nat) (Option.some Jvm.ClassFile.FieldType.boolean), Jvm.Cond.code ({ cls := "java/lang/String", name := "equals", desc := "(Ljava/lang/Object;)Z" } : Jvm.MethodName) jdk_42_method_66_code (3 : Nat) (Option.some Jvm.ClassFile.FieldType.boolean), Jvm.Cond.code ({ cls := "java/lang/StringLatin1", name := "equals", desc := "([B[B)Z" } : Jvm.MethodName) jdk_43_method_13_code (3 : Nat) (Option.some Jvm.ClassFile.FieldType.boolean), Jvm.Cond.code ({ cls := "com/example/sure_paths/surepaths/model/ClassInclusion", name := "<init>", desc := "(Ljava/lang/String;Ljava/lang/String;)V" } : Jvm.MethodName) prog_31_method_1_code (3 : Nat) (Option.none : Option Jvm.ClassFile.FieldType), Jvm.Cond.code ({ cls := "java/lang/StringUTF16", name := "compress", desc := "([CII)[B" } : Jvm.MethodName) jdk_52_method_16_code (6 : Nat) (Option.some (Jvm.ClassFile.FieldType.array Jvm.ClassFile.FieldType.byte)), Jvm.Cond.code ({ cls := "java/lang/StringUTF16", name := "compress", desc := "([CI[BII)I" } : Jvm.MethodName) jdk_52_method_21_code (7 : Nat) (Option.some Jvm.ClassFile.FieldType.int), Jvm.Cond.code ({ cls := "java/lang/StringUTF16", name := "coderFromArrayLen", desc := "([BI)B" } : Jvm.MethodName) jdk_52_method_15_code (2 : Nat) (Option.some Jvm.ClassFile.FieldType.byte)]
set_option maxRecDepth 65536 in
theorem codes_eq : words1.filter isCode = codes1 := rfl
theorem w_codes : ∀ c ∈ words1.filter isCode, c.before args0 about1 = true := by
  rw [codes_eq]
  intro c hc
  simp only [codes1, List.mem_cons, List.not_mem_nil, or_false] at hc
  rcases hc with rfl | rfl | rfl | rfl | rfl | rfl | rfl | rfl | rfl | rfl | rfl | rfl | rfl | rfl | rfl | rfl
  · exact w_c0
  · exact w_c1
  · exact w_c2
  · exact w_c3
  · exact w_c4
  · exact w_c5
  · exact w_c6
  · exact w_c7
  · exact w_c8
  · exact w_c9
  · exact w_c10
  · exact w_c11
  · exact w_c12
  · exact w_c13
  · exact w_c14
  · exact w_c15
set_option maxRecDepth 65536 in
theorem w_t1 : (words1.take 24).all (fun c => isCode c || c.before args0 about1) = true := by decide +kernel
set_option maxRecDepth 65536 in
theorem w_t2 : ((words1.drop 24).take 24).all (fun c => isCode c || c.before args0 about1) = true := by decide +kernel
set_option maxRecDepth 65536 in
theorem w_t3 : (((words1.drop 24).drop 24).take 24).all (fun c => isCode c || c.before args0 about1) = true := by decide +kernel
set_option maxRecDepth 65536 in
theorem w_t4 : ((((words1.drop 24).drop 24).drop 24).take 24).all (fun c => isCode c || c.before args0 about1) = true := by decide +kernel
set_option maxRecDepth 65536 in
theorem w_t5 : ((((words1.drop 24).drop 24).drop 24).drop 24).all (fun c => isCode c || c.before args0 about1) = true := by decide +kernel
theorem w_tables : (allAtoms (Jvm.Cond.code x code maxLocals ret :: tables_1)).before args0 about1 = true := by
  rw [allAtoms_all]
  show words1.all (fun c => c.before args0 about1) = true
  refine all_split ?_ w_codes
  rw [← List.take_append_drop 24 words1, List.all_append, w_t1, ← List.take_append_drop 24 (words1.drop 24), List.all_append, w_t2, ← List.take_append_drop 24 ((words1.drop 24).drop 24), List.all_append, w_t3, ← List.take_append_drop 24 (((words1.drop 24).drop 24).drop 24), List.all_append, w_t4, w_t5]
  rfl
set_option maxRecDepth 65536 in
theorem w_rest : rest_1_c.before args0 about1 = true := by decide +kernel
set_option maxRecDepth 65536 in
theorem w_case : (Jvm.Cond.and given_1 narrow_1).before args0 about1 = true := by decide +kernel
set_option maxRecDepth 65536 in
theorem w_consts : constsHeld consts_1 about1 := Jvm.Lit.constsHeldB_iff.mp (by decide +kernel)
theorem w_applies : (headSpec (Jvm.Cond.code x code maxLocals ret :: tables_1) room_1).applies x e0.platform about1 = true :=
  (Spec.applies_iff w_frames).mpr ⟨w_running, w_runnable, w_alone, w_named, w_hears, w_ripe, w_room, w_tables⟩
theorem atStart : AtStart classFile x code maxLocals ret World_1 tables_1 room_1 Calls_1 rest_1 Pre_1 launch0 p0 e0 about1 theMethod args0 below0 :=
  ⟨lists_1, trivial, launch0.admits_env _ _ _, launch0.least_env, fairChoices_fair.cas, fairChoices_fair.clock, w_frames, w_args, w_heap, w_applies, ⟨w_consts, trivial⟩, w_rest, w_case⟩
end start1
theorem witness_1 : WitnessClaimed_1 := ⟨start1.p0, start1.e0, start1.about1, start1.theMethod, start1.args0, start1.below0, start1.atStart⟩
end Jvm.Pilot.@@N@@
