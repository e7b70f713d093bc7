import JvmDerived
import JvmDerived.Pilot.@@N@@Statement
import JvmDerived.Pilot.@@N@@Code
set_option linter.unusedVariables false
set_option linter.unusedSimpArgs false
namespace Jvm.Pilot.@@N@@
open Jvm Jvm.ClassFile Sem Op Lib Jvm.Free Jvm.Stand Jvm.LawKit Jvm.RoadKit Bundle Jvm.Pilot.@@N@@.Jvm.D
/-! own: the walk by continuation -/
def Go (p : Program) (e : Env) (below : List Frame) (A : State) (G : Outcome → State → Prop) : Prop :=
  ∃ s₂ o, Steps p.tables e below A s₂ ∧ s₂.status = .running ∧ Ended s₂ below o ∧ G o s₂
section Own
variable {p : Program} {l : Launch} {e : Env} {R : Room} {s : State} {m : MethodId} {args : Array Value} {below : List Frame} {meth : Method} {c : Code} {T : State} {locs : List Loc} {cells slots : Nat} {G : Outcome → State → Prop} {A B : State}
theorem go_of (h : ∀ t, Steps p.tables e below B t → Steps p.tables e below A t) (k : Go p e below B G) : Go p e below A G := by
  obtain ⟨s₂, o, h1, h2⟩ := k; exact ⟨s₂, o, h _ h1, h2⟩
theorem go_tr (h : Steps p.tables e below A B) (k : Go p e below B G) : Go p e below A G := go_of (fun _ q => h.trans q) k
theorem go_end (X : Stand p l e R s m args below meth c T locs cells slots) {v : Option Value} (hv : meth.sig.returnType = none → v = none) (hlocks : meth.locks = false) {C S : Nat} (hc : cells ≤ C) (hs : slots ≤ S)
    {Q : Option Value → Heap → List Loc → Prop} (hQ : Q v T.heap locs) {f : JFrame}
    (st : ∀ fs, (∀ (f : JFrame) (acts : List Action), f.method = m → f.locked = none → f.entered = [] → (doReturn e (T.setTop f) acts v).1 = T.setFrames fs) → Steps p.tables e below (T.setTop f) (T.setFrames fs)) :
    Go p e below (T.setTop f) (fun o U' => ∃ v L, o = .returned v ∧ Q v U'.heap L ∧ FrameEnd s o U' L C S) := by
  obtain ⟨fs, hr, hrun, hended, hW, hsame⟩ := X.leave (v := v) hv hlocks
  exact ⟨_, _, st fs hr, hrun, hended, _, _, rfl, hQ, ⟨_, rfl⟩, hW, hsame.mono hc hs⟩
theorem go_endW {vm : Vm} (X : Stand p l e R (s.setVm vm) m args below meth c T locs cells slots) {k : Nat} (hS : s.Since vm k) (hk : k ≤ T.heap.size) {v : Option Value} (hv : meth.sig.returnType = none → v = none) (hlocks : meth.locks = false) {C S : Nat} (hc : cells ≤ C) (hs : slots ≤ S)
    {Q : Option Value → Heap → List Loc → Prop} (hQ : Q v T.heap locs) {f : JFrame}
    (st : ∀ fs, (∀ (f : JFrame) (acts : List Action), f.method = m → f.locked = none → f.entered = [] → (doReturn e (T.setTop f) acts v).1 = T.setFrames fs) → Steps p.tables e below (T.setTop f) (T.setFrames fs)) :
    Go p e below (T.setTop f) (fun o U' => ∃ v L, o = .returned v ∧ Q v U'.heap L ∧ ReturnedEndW s o U' L C S) := by
  obtain ⟨fs, hr, hrun, hended, e1, e2, e3, e4⟩ := X.leaveW hS hk (v := v) hv hlocks
  exact ⟨_, _, st fs hr, hrun, hended, _, _, rfl, hQ, e1, e2, e3, e4.mono hc hs⟩
theorem own_retI (X : Stand p l e R s m args below meth c T locs cells slots) (hx : p.tables.exec = Jvm.exec) {pc : Nat} {Ls : Array Slot} {z : Int32} {rest : List Value} (hret : meth.sig.returnType = some .int) (hd : decode c.code pc = .ok (.ireturn, 1)) {fs : List Frame}
    (hl : ∀ (f : JFrame) (acts : List Action), f.method = m → f.locked = none → f.entered = [] → (doReturn e (T.setTop f) acts (some (.int z))).1 = T.setFrames fs) : Steps p.tables e below (T.setTop (mkF m pc Ls (.int z :: rest))) (T.setFrames fs) :=
  retOut X hx hret rfl (Or.inl ⟨rfl, Or.inl rfl, _, rfl⟩) hd hl
theorem own_retL (X : Stand p l e R s m args below meth c T locs cells slots) (hx : p.tables.exec = Jvm.exec) {pc : Nat} {Ls : Array Slot} {z : Int64} {rest : List Value} (hret : meth.sig.returnType = some .long) (hd : decode c.code pc = .ok (.lreturn, 1)) {fs : List Frame}
    (hl : ∀ (f : JFrame) (acts : List Action), f.method = m → f.locked = none → f.entered = [] → (doReturn e (T.setTop f) acts (some (.long z))).1 = T.setFrames fs) : Steps p.tables e below (T.setTop (mkF m pc Ls (.long z :: rest))) (T.setFrames fs) :=
  retOut X hx hret rfl (Or.inr (Or.inl ⟨rfl, rfl, _, rfl⟩)) hd hl
theorem own_retA (X : Stand p l e R s m args below meth c T locs cells slots) (hx : p.tables.exec = Jvm.exec) {pc : Nat} {Ls : Array Slot} {w : Value} {t : FieldType} {rest : List Value} (hret : meth.sig.returnType = some t) (ht : t.isReference = true) (hw : w.isRef = true) (hd : decode c.code pc = .ok (.areturn, 1)) {fs : List Frame}
    (hl : ∀ (f : JFrame) (acts : List Action), f.method = m → f.locked = none → f.entered = [] → (doReturn e (T.setTop f) acts (some w)).1 = T.setFrames fs) : Steps p.tables e below (T.setTop (mkF m pc Ls (w :: rest))) (T.setFrames fs) :=
  retOut X hx hret (by cases t <;> first | rfl | (cases ht; done)) (Or.inr (Or.inr (Or.inr (Or.inr ⟨rfl, ht, hw⟩)))) hd hl
theorem own_fldI {t : Term} {C n d : String} {k : Int32} {a : Addr} (ev : t.eval args s none [] s = some (.ref a)) (h : (Jvm.Cond.eq (.field t C n d) (.int k)).value args s none s [] = some true) : Fld s s.heap a C n d (.int k) := by
  obtain ⟨x, y, h1, h2, -, kyx⟩ := cmp_v (Or.inl h)
  have e2 : y = .int k := (Option.some.inj (h2.symm.trans (Term.int_eval k)))
  subst e2
  obtain ⟨z, rfl⟩ := kyx
  have hz : z = k := by simpa [Cond.value, h1, Term.int_eval] using h
  subst hz
  rw [fld_at ev] at h1
  exact Fld.start h1
theorem own_tsw (X : Stand p l e R s m args below meth c T locs cells slots) (hexec : p.tables.exec = Jvm.exec) {g : JFrame} (hg : g.method = m) {k : Int32} {rest : List Value} (hstack : g.stack = .int k :: rest) {default low high : Int} {offsets : Array Int} {len pc0 pc' : Nat} (hpc : g.pc = pc0)
    (hdg : decode c.code g.pc = .ok (.tableswitch default low high offsets, len)) (ki : Int) (hk : k.toInt = ki) (hin : ¬ (ki < low ∨ ki > high)) (off : Int) (hoffs : offsets[(ki - low).toNat]? = some off) (hoff : 0 ≤ (pc0 : Int) + off) (hp : ((pc0 : Int) + off).toNat = pc') {target : State}
    (hr : Steps p.tables e below (T.setTop { g with pc := pc', stack := rest }) target) : Steps p.tables e below (T.setTop g) target := by
  subst hpc hk hp; exact X.tableswitchIn hexec hg hstack hdg hin hoffs hoff target hr
theorem own_ne {a b : Addr} (h : @Ne Nat a b) : a ≠ b := h
theorem own_lt {a b : Nat} (h : @LT.lt Nat instLTNat a b) : @LT.lt Nat instLTNat a b := h
theorem own_le {a b : Nat} (h : @LE.le Nat instLENat a b) : @LE.le Nat instLENat a b := h
theorem own_nlt {a : Addr} {n : Nat} (h : a < n) : @LT.lt Nat instLTNat a n := h
theorem own_nle {a : Nat} {b : Addr} (h : a ≤ b) : @LE.le Nat instLENat a b := h
theorem own_inskeep {Z : State} {h h' : Heap} {a : Addr} {C : String} {ws : List Addr} (F : Ins Z h a C true) (K : Keep h h' ws) : Ins Z h' a C true := by
  obtain ⟨cell, cT, h1, h2, h3⟩ := F; obtain ⟨c', q, r1, r2, -⟩ := K.2.2 a cell h1; exact ⟨c', cT, q, h2, by rw [r1, r2]; exact h3⟩
theorem own_inslt {Z : State} {h : Heap} {a : Addr} {C : String} {b : Bool} (F : Ins Z h a C b) : a < h.size := by obtain ⟨_, _, h1, -⟩ := F; exact (Array.getElem?_eq_some_iff.mp h1).1
theorem own_kx {h h' : Heap} (K : Keep h h' []) : Ext h h' := ⟨K.1, fun a c q => K.2.1 a c q nin0⟩
theorem own_cache {t : Term} {C : String} {q : Jvm.Cond} {cl : Cell} {a : Addr} {ty : FieldType} (ev : ∀ idx, t.eval args s none idx s = some (.ref a)) (Ar : Arr s s.heap a cl ty)
    (h : (Jvm.Cond.all t (.and (.exactly (.elem t (.index 0)) C) q)).value args s none s [] = some true) (hz : cl.slots.size = 256) : ∀ i, i < 256 → ∃ w, cl.slots[i]? = some (.ref w) ∧ Exa s s.heap w C := fun i hi => by
  have hat : s.arrayAt? a = some cl := Arr.fin (Vm.Alike.refl _) Ar
  have hv := Cond.all_elim (ev []) hat h i (by rw [hz]; exact hi)
  obtain ⟨h1, -⟩ := and_e hv
  obtain ⟨w, ew⟩ := exa_v h1
  have ex := exa_at ew h1
  obtain ⟨p1, p2⟩ := IntBox.place_nonneg i hi
  rw [elem_f (ev [i]) (j := i.toInt32) rfl hat p1, p2] at ew
  exact ⟨w, ew, ex⟩
theorem own_stev {C n d : String} {v : Value} (h : (Term.static C n d).eval args s none [] s = some v) (idx : List Nat) : (Term.static C n d).eval args s none idx s = some v := h
theorem own_len {t : Term} {a : Addr} {cl : Cell} {ty : FieldType} {k : Int32} (ev : t.eval args s none [] s = some (.ref a)) (Ar : Arr s s.heap a cl ty) (h : (Jvm.Cond.eq (.length t) (.int k)).value args s none s [] = some true) (hk : ¬ k < 0) : cl.slots.size = k.toNatClampNeg := by
  have hat : s.arrayAt? a = some cl := Arr.fin (Vm.Alike.refl _) Ar
  obtain ⟨x, y, h1, h2, -, kyx⟩ := cmp_v (Or.inl h)
  have e2 : y = .int k := (Option.some.inj (h2.symm.trans (Term.int_eval k)))
  subst e2
  obtain ⟨z, rfl⟩ := kyx
  have hz : z = k := by simpa [Cond.value, h1, Term.int_eval] using h
  subst hz
  have hl : cl.slots.size < 2 ^ 31 := by
    by_cases q : cl.slots.size < 2 ^ 31
    · exact q
    · simp [Term.eval, ev, hat, q] at h1
  rw [len_f ev hat hl] at h1
  have h3 : cl.slots.size.toInt32 = z := by simpa using h1
  rw [← h3]
  have h4 := len_toInt hl
  simp only [Int32.toNatClampNeg, h4]; rfl
end Own
theorem own_wS {a0 : Array Value} {Z : State} (hw : ∀ d ∈ tables_1, d.before a0 Z = true) : ∀ a ∈ Bundle.stringAtoms, a.before a0 Z = true := by
  intro a ha
  simp only [Bundle.stringAtoms, List.mem_cons, List.not_mem_nil, or_false] at ha
  rcases ha with rfl | rfl | rfl | rfl | rfl | rfl | rfl
  · exact hw _ (List.mem_of_getElem? (i := 12) rfl)
  · exact hw _ (List.mem_of_getElem? (i := 11) rfl)
  · exact hw _ (List.mem_of_getElem? (i := 29) rfl)
  · exact hw _ (List.mem_of_getElem? (i := 39) rfl)
  · exact hw _ (List.mem_of_getElem? (i := 37) rfl)
  · exact hw _ (List.mem_of_getElem? (i := 45) rfl)
  · exact hw _ (List.mem_of_getElem? (i := 46) rfl)
theorem own_fI {a0 : Array Value} {Z : State} {K : String} {n : Nat} (w : (Cond.instantiable K n).before a0 Z = true) : ∃ t k, Z.vm.findClass K = some t ∧ Z.vm.classes[t]? = some k ∧ k.kind = .ordinary ∧ k.isInterface = false := by
  obtain ⟨c, k, h1, h2, h3, h4, -⟩ := Cond.instantiable_spec w
  exact ⟨c, k, h1, h2, h3, by cases q : k.isInterface <;> simp_all⟩
theorem own_nsroot {a0 : Array Value} {Z : State} {O K : String} {n : Nat} (w : (Cond.noSuperclass O).before a0 Z = true) (wk : (Cond.instantiable K n).before a0 Z = true) (hn : O ≠ K) : NS Z O K := by
  obtain ⟨c, k, h1, h2, h3, -, -⟩ := Cond.noSuperclass_spec w
  obtain ⟨t, kt, g1, -⟩ := own_fI wk
  have ne := ids_ne h1 g1 hn
  refine ⟨c, t, h1, g1, fun fuel => ?_⟩
  cases fuel with
  | zero => rfl
  | succ f => simp [Vm.isSubclassAux, ne, h2, h3]
theorem own_nsno {a0 : Array Value} {Z : State} {C S K : String} {n : Nat} (w : (Cond.superclass C S).before a0 Z = true) (wk : (Cond.instantiable K n).before a0 Z = true) (nn : NS Z C K) (hn : C ≠ K) : ∃ c t, Z.vm.findClass C = some c ∧ Z.vm.findClass K = some t ∧ Z.vm.assignable c t = false := by
  obtain ⟨c, t, h0, g0, n3⟩ := nn
  obtain ⟨p, k, kp, h1, h2, h3, h4, h5, -, h7⟩ := Cond.superclass_spec h0 w
  obtain ⟨t', k', g1, g2, g5, g7⟩ := own_fI wk
  cases g0.symm.trans g1
  have ne := ids_ne h0 g0 hn
  refine ⟨c, t, h0, g0, ?_⟩
  show Z.vm.assignableAux (255 + 1) c t = false
  simp [Vm.assignableAux, ne, h2, g2, h5, g5, g7, Vm.isSubclass, n3]

abbrev own_b8 (c : Int32) : Int32 := c.toInt8.toInt32
theorem own_bb (c : Int32) : c.toInt8.toInt32.toInt8.toInt32 = c.toInt8.toInt32 := by simp
/-- a String of Latin-1 chars -/
def Str (Z : State) (h : Heap) (a : Addr) (n : Int32) (cs : List Int32) : Prop := ∃ (t : Addr) (k : ClassId), Exa Z h a "java/lang/String" ∧ Fld Z h a "java/lang/String" "coder" "B" (.int 0) ∧ Fld Z h a "java/lang/String" "value" "[B" (.ref t) ∧ Arv Z h t k .byte n (cs.map fun c => .int (own_b8 c)) (.int 0) ∧ (∀ c ∈ cs, ¬ c < 0 ∧ ¬ (255 : Int32) < c) ∧ @LT.lt Nat instLTNat a t
theorem Str.ext {Z : State} {h h' : Heap} {a : Addr} {n : Int32} {cs : List Int32} (F : Str Z h a n cs) (E : Ext h h') : Str Z h' a n cs := by
  obtain ⟨t, k, f1, f2, f3, f4, f5⟩ := F; exact ⟨t, k, f1.ext E, f2.ext E, f3.ext E, f4.ext E, f5⟩
theorem Str.wr {Z : State} {h h' : Heap} {a o : Addr} {i : Nat} {v : Value} {n : Int32} {cs : List Int32} (F : Str Z h a n cs) (W : Wr h h' o i v) (q : @LT.lt Nat instLTNat o a) : Str Z h' a n cs := by
  obtain ⟨t, k, f1, f2, f3, f4, f5, f6⟩ := F
  exact ⟨t, k, f1.wr W, f2.other W (Or.inl (own_ne (by omega))), f3.other W (Or.inl (own_ne (by omega))), f4.other W (own_ne (by omega)), f5, f6⟩
theorem Str.keep {Z : State} {h h' : Heap} {a : Addr} {ws : List Addr} {n : Int32} {cs : List Int32} (F : Str Z h a n cs) (K : Keep h h' ws) (q : ∀ o ∈ ws, @LT.lt Nat instLTNat o a) : Str Z h' a n cs := by
  obtain ⟨t, k, f1, f2, f3, f4, f5, f6⟩ := F
  have na : a ∉ ws := fun m => Nat.lt_irrefl _ (q a m)
  have nt : t ∉ ws := fun m => Nat.lt_asymm (q t m) f6
  exact ⟨t, k, f1.keep K, f2.keep K na, f3.keep K na, f4.keep K nt, f5, f6⟩
theorem Str.lt {Z : State} {h : Heap} {a : Addr} {n : Int32} {cs : List Int32} (F : Str Z h a n cs) : a < h.size := by obtain ⟨t, k, f1, -⟩ := F; exact f1.lt
theorem Str.exa {Z : State} {h : Heap} {a : Addr} {n : Int32} {cs : List Int32} (F : Str Z h a n cs) : Exa Z h a "java/lang/String" := by obtain ⟨t, k, f1, -⟩ := F; exact f1
theorem own_allc {P : Int32 → Prop} {c : Int32} {cs : List Int32} (h : P c) (r : ∀ x ∈ cs, P x) : ∀ x ∈ c :: cs, P x := fun x q => (List.mem_cons.mp q).elim (fun e => e ▸ h) (r x)
theorem own_narc {c : Int32} (h : ¬ c < 0 ∧ ¬ (255 : Int32) < c) : nar .char c = c := by
  have h1 := c_i2c c
  apply Int32.toInt_inj.mp
  have e0 : (0 : Int32).toInt = 0 := rfl
  have e1 : (255 : Int32).toInt = 255 := rfl
  have h2 := h.1; have h3 := h.2
  rw [Int32.lt_iff_toInt_lt] at h2 h3
  show c.toUInt32.toUInt16.toUInt32.toInt32.toInt = c.toInt
  omega
theorem own_b255 {c : Int32} (h : ¬ c < 0 ∧ ¬ (255 : Int32) < c) : (own_b8 c &&& (255 : Int32)).toUInt32.toUInt16.toUInt32.toInt32 = c := by
  have h1 := c_i2b c
  have h4 : (own_b8 c &&& (255 : Int32)).toInt = (own_b8 c).toInt % 256 := c_mask (own_b8 c) 255 8 (by decide) (by decide)
  have h5 := c_i2c (own_b8 c &&& (255 : Int32))
  apply Int32.toInt_inj.mp
  have e0 : (0 : Int32).toInt = 0 := rfl
  have e1 : (255 : Int32).toInt = 255 := rfl
  have h2 := h.1; have h3 := h.2
  rw [Int32.lt_iff_toInt_lt] at h2 h3
  have e8 : (own_b8 c).toInt = c.toInt8.toInt32.toInt := rfl
  omega
theorem own_b8inj {c d : Int32} (h : ¬ c < 0 ∧ ¬ (255 : Int32) < c) (h' : ¬ d < 0 ∧ ¬ (255 : Int32) < d) (e : own_b8 c = own_b8 d) : c = d := by
  rw [← own_b255 h, ← own_b255 h', e]

def own_eqv (cs ds : List Int32) : Int32 := if cs = ds then 1 else 0
theorem own_eqv0 (cs ds : List Int32) : own_eqv cs ds = 0 ↔ ¬ cs = ds := by unfold own_eqv; by_cases h : cs = ds <;> simp [h]
theorem own_eqmap : ∀ (cs ds : List Int32), (∀ c ∈ cs, ¬ c < 0 ∧ ¬ (255 : Int32) < c) → (∀ c ∈ ds, ¬ c < 0 ∧ ¬ (255 : Int32) < c) → (cs.map own_b8 = ds.map own_b8 ↔ cs = ds)
  | [], [], _, _ => by simp
  | [], _ :: _, _, _ => by simp
  | _ :: _, [], _, _ => by simp
  | c :: cs, d :: ds, h, h' => by
    have ih := own_eqmap cs ds (fun x q => h x (List.mem_cons_of_mem _ q)) (fun x q => h' x (List.mem_cons_of_mem _ q))
    simp only [List.map_cons, List.cons.injEq, ih]
    constructor
    · rintro ⟨e, r⟩; exact ⟨own_b8inj (h c (List.mem_cons_self ..)) (h' d (List.mem_cons_self ..)) e, r⟩
    · rintro ⟨rfl, r⟩; exact ⟨rfl, r⟩

def StrL (Z : State) (h : Heap) (a : Addr) : List Int32 → Prop
  | [c0] => Str Z h a 1 [c0]
  | [c0, c1] => Str Z h a 2 [c0, c1]
  | _ => False
theorem StrL.ext' {Z : State} {h h' : Heap} {a : Addr} (E : Ext h h') : ∀ {cs : List Int32}, StrL Z h a cs → StrL Z h' a cs
  | [], F => F.elim
  | [c0], F => Str.ext F E
  | [c0, c1], F => Str.ext F E
  | _ :: _ :: _ :: _, F => F.elim
theorem StrL.wr' {Z : State} {h h' : Heap} {a o : Addr} {i : Nat} {v : Value} (W : Wr h h' o i v) (q : @LT.lt Nat instLTNat o a) : ∀ {cs : List Int32}, StrL Z h a cs → StrL Z h' a cs
  | [], F => F.elim
  | [c0], F => Str.wr F W q
  | [c0, c1], F => Str.wr F W q
  | _ :: _ :: _ :: _, F => F.elim
theorem StrL.keep' {Z : State} {h h' : Heap} {a : Addr} {ws : List Addr} (K : Keep h h' ws) (q : ∀ o ∈ ws, @LT.lt Nat instLTNat o a) : ∀ {cs : List Int32}, StrL Z h a cs → StrL Z h' a cs
  | [], F => F.elim
  | [c0], F => Str.keep F K q
  | [c0, c1], F => Str.keep F K q
  | _ :: _ :: _ :: _, F => F.elim
theorem StrL.exa' {Z : State} {h : Heap} {a : Addr} : ∀ {cs : List Int32}, StrL Z h a cs → Exa Z h a "java/lang/String"
  | [], F => F.elim
  | [c0], F => Str.exa F
  | [c0, c1], F => Str.exa F
  | _ :: _ :: _ :: _, F => F.elim
theorem StrL.wr {Z : State} {h h' : Heap} {a o : Addr} {i : Nat} {v : Value} {cs : List Int32} (F : StrL Z h a cs) (W : Wr h h' o i v) (q : @LT.lt Nat instLTNat o a) : StrL Z h' a cs := StrL.wr' W q F
theorem StrL.keep {Z : State} {h h' : Heap} {a : Addr} {ws : List Addr} {cs : List Int32} (F : StrL Z h a cs) (K : Keep h h' ws) (q : ∀ o ∈ ws, @LT.lt Nat instLTNat o a) : StrL Z h' a cs := StrL.keep' K q F
theorem StrL.exa {Z : State} {h : Heap} {a : Addr} {cs : List Int32} (F : StrL Z h a cs) : Exa Z h a "java/lang/String" := StrL.exa' F
theorem StrL.ext {Z : State} {h h' : Heap} {a : Addr} {cs : List Int32} (F : StrL Z h a cs) (E : Ext h h') : StrL Z h' a cs := StrL.ext' E F
theorem d16_0 : decode jdk_43_method_13_code 0 = .ok (.aload_n 0, 1) := by decide +kernel
theorem d16_1 : decode jdk_43_method_13_code 1 = .ok (.arraylength, 1) := by decide +kernel
theorem d16_2 : decode jdk_43_method_13_code 2 = .ok (.aload_n 1, 1) := by decide +kernel
theorem d16_3 : decode jdk_43_method_13_code 3 = .ok (.arraylength, 1) := by decide +kernel
theorem d16_4 : decode jdk_43_method_13_code 4 = .ok (.if_icmp .ne 30, 3) := by decide +kernel
theorem d16_7 : decode jdk_43_method_13_code 7 = .ok (.iconst 0, 1) := by decide +kernel
theorem d16_8 : decode jdk_43_method_13_code 8 = .ok (.istore_n 2, 1) := by decide +kernel
theorem d16_9 : decode jdk_43_method_13_code 9 = .ok (.iload_n 2, 1) := by decide +kernel
theorem d16_10 : decode jdk_43_method_13_code 10 = .ok (.aload_n 0, 1) := by decide +kernel
theorem d16_11 : decode jdk_43_method_13_code 11 = .ok (.arraylength, 1) := by decide +kernel
theorem d16_12 : decode jdk_43_method_13_code 12 = .ok (.if_icmp .ge 20, 3) := by decide +kernel
theorem d16_15 : decode jdk_43_method_13_code 15 = .ok (.aload_n 0, 1) := by decide +kernel
theorem d16_16 : decode jdk_43_method_13_code 16 = .ok (.iload_n 2, 1) := by decide +kernel
theorem d16_17 : decode jdk_43_method_13_code 17 = .ok (.baload, 1) := by decide +kernel
theorem d16_18 : decode jdk_43_method_13_code 18 = .ok (.aload_n 1, 1) := by decide +kernel
theorem d16_19 : decode jdk_43_method_13_code 19 = .ok (.iload_n 2, 1) := by decide +kernel
theorem d16_20 : decode jdk_43_method_13_code 20 = .ok (.baload, 1) := by decide +kernel
theorem d16_21 : decode jdk_43_method_13_code 21 = .ok (.if_icmp .eq 5, 3) := by decide +kernel
theorem d16_26 : decode jdk_43_method_13_code 26 = .ok (.iinc 2 1, 3) := by decide +kernel
theorem d16_29 : decode jdk_43_method_13_code 29 = .ok (.goto (-20), 3) := by decide +kernel
theorem d16_32 : decode jdk_43_method_13_code 32 = .ok (.iconst 1, 1) := by decide +kernel
theorem d16_33 : decode jdk_43_method_13_code 33 = .ok (.ireturn, 1) := by decide +kernel
def Q_str_lat_1_1 (Z : State) (t : Addr) (tt : Addr) (c0 : Int32) (d0 : Int32) (k : ClassId) (kk : ClassId) (h0 : Heap) (n0 : Nat) (v : Option Value) (h : Heap) (L : List Loc) : Prop := v = some (.int (own_eqv [c0] [d0])) ∧ Fr n0 L ∧ h = h0
theorem d16_24 : decode jdk_43_method_13_code 24 = .ok (.iconst 0, 1) := by decide +kernel
theorem d16_25 : decode jdk_43_method_13_code 25 = .ok (.ireturn, 1) := by decide +kernel
theorem pn_java_lang_StringLatin1 : plainName "java/lang/StringLatin1" = true := by first | (simp [plainName, overriddenIn]; done) | decide +kernel
theorem ef_str_lat_1_1 (m : MethodId) (t : Addr) (tt : Addr)  : entryFrame m #[(.ref t), (.ref tt)] 3 = mkF m 0 #[.val (.ref t), .val (.ref tt), .unset] [] := by first | (simp [entryFrame, mkF, argsToLocals, Value.category]; done) | rfl
set_option maxRecDepth 65536 in
set_option maxHeartbeats 40000000 in
theorem str_lat_1_1 (l : Launch) (Z : State) (a0 : Array Value) (hw : ∀ d ∈ tables_1, d.before a0 Z = true) (ws : List Jvm.Cond) (t : Addr) (tt : Addr) (c0 : Int32) (d0 : Int32) (k : ClassId) (kk : ClassId) (h0 : Heap) (n0 : Nat) (Z0 : n0 ≤ h0.size) (Vt : Arv Z h0 t k .byte 1 [(.int c0)] (.int 0)) (Vtt : Arv Z h0 tt kk .byte 1 [(.int d0)] (.int 0)) :
    MetFree l (⟨"java/lang/StringLatin1", "equals", "([B[B)Z"⟩ : MethodName) (head1 (Jvm.Cond.code (⟨"java/lang/StringLatin1", "equals", "([B[B)Z"⟩ : MethodName) jdk_43_method_13_code 3 (some .boolean) :: ws) ({ frames := 0, cells := 0, slots := 0, locals := 0 } : Room)) (fun aa' U1' => aa' = #[(.ref t), (.ref tt)] ∧ Z.Warmed39 U1'.vm ∧ U1'.heap = h0) (fun _ _ _ _ _ => True) (fun _ U1' oo' U2' => ∃ vv' LL', oo' = .returned vv' ∧ (Q_str_lat_1_1 Z t tt c0 d0 k kk h0 n0) vv' U2'.heap LL' ∧ FrameEnd U1' oo' U2' LL' ({ frames := 0, cells := 0, slots := 0, locals := 0 } : Room).cells ({ frames := 0, cells := 0, slots := 0, locals := 0 } : Room).slots) := by
  refine MetFree.of_bodySF (plainFor_of_name pn_java_lang_StringLatin1) hisR ?_
  intro p e s m args below meth c s₁ Bd hml0 hP hK
  obtain ⟨rfl, hZ, hh⟩ := hP
  have hx := Bd.exec
  have hby := Bd.bytes
  have hml : c.maxLocals = 3 := hml0
  have hown : s.vm.findClass "java/lang/StringLatin1" = some m.cls := findClass_of_methodNamed Bd.named
  have hnm := (name_of_methodNamed Bd.named Bd.method).1
  have X0 : Stand p l e ({ frames := 0, cells := 0, slots := 0, locals := 0 } : Room) s m #[(.ref t), (.ref tt)] below meth c s₁ [] 0 0 := Stand.of_body Bd
  have e0 : s₁.heap = h0 := by rw [← hh, Bd.state]; rfl
  have N0 := Fr.nil n0
  refine go_of (A := s₁.setTop (entryFrame m #[(.ref t), (.ref tt)] 3)) (B := s₁.setTop (mkF m 0 #[.val (.ref t), .val (.ref tt), .unset] [])) (fun _ kk' => castTop (ef_str_lat_1_1 m t tt) kk') ?_
  refine go_of (B := (s₁.setTop (mkF m 1 #[.val (.ref t), .val (.ref tt), .unset] [(.ref t)]))) (fun _ kk => XS.aloadN X0.here hx rfl (hb hby d16_0) rfl rfl kk) ?_
  obtain ⟨cl1, Ar1, q1, Sz1, Nn1, Hh1, G1⟩ := id (Vt)
  have ln1 := len_of Sz1 Nn1
  refine go_of (B := (s₁.setTop (mkF m 2 #[.val (.ref t), .val (.ref tt), .unset] [(.int (1 : Int32))]))) (fun _ kk => X0.arraylength hx (by rw [e0]; exact Ar1.1) (State.isArrayOf_alike hZ.alike Ar1.2.1) (g := (mkF m 1 #[.val (.ref t), .val (.ref tt), .unset] [(.ref t)])) rfl rfl (hb hby d16_1) _ (by rw [ln1]; exact kk)) ?_
  refine go_of (B := (s₁.setTop (mkF m 3 #[.val (.ref t), .val (.ref tt), .unset] [(.ref tt), (.int (1 : Int32))]))) (fun _ kk => XS.aloadN X0.here hx rfl (hb hby d16_2) rfl rfl kk) ?_
  obtain ⟨cl2, Ar2, q2, Sz2, Nn2, Hh2, G2⟩ := id (Vtt)
  have ln2 := len_of Sz2 Nn2
  refine go_of (B := (s₁.setTop (mkF m 4 #[.val (.ref t), .val (.ref tt), .unset] [(.int (1 : Int32)), (.int (1 : Int32))]))) (fun _ kk => X0.arraylength hx (by rw [e0]; exact Ar2.1) (State.isArrayOf_alike hZ.alike Ar2.2.1) (g := (mkF m 3 #[.val (.ref t), .val (.ref tt), .unset] [(.ref tt), (.int (1 : Int32))])) rfl rfl (hb hby d16_3) _ (by rw [ln2]; exact kk)) ?_
  refine go_of (B := (s₁.setTop (mkF m 7 #[.val (.ref t), .val (.ref tt), .unset] []))) (fun _ kk => XS.icmpNo X0.here hx rfl (hb hby d16_4) rfl (teq (by decide : (1 : Int32) = (1 : Int32))).2 kk) ?_
  refine go_of (B := (s₁.setTop (mkF m 8 #[.val (.ref t), .val (.ref tt), .unset] [(.int (0 : Int32))]))) (fun _ kk => XS.iconst X0.here hx rfl (hb hby d16_7) kk) ?_
  refine go_of (B := (s₁.setTop (mkF m 9 #[.val (.ref t), .val (.ref tt), .val (.int (0 : Int32))] []))) (fun _ kk => XS.istoreN X0.here hx rfl (hb hby d16_8) rfl rfl kk) ?_
  refine go_of (B := (s₁.setTop (mkF m 10 #[.val (.ref t), .val (.ref tt), .val (.int (0 : Int32))] [(.int (0 : Int32))]))) (fun _ kk => XS.iloadN X0.here hx rfl (hb hby d16_9) rfl kk) ?_
  refine go_of (B := (s₁.setTop (mkF m 11 #[.val (.ref t), .val (.ref tt), .val (.int (0 : Int32))] [(.ref t), (.int (0 : Int32))]))) (fun _ kk => XS.aloadN X0.here hx rfl (hb hby d16_10) rfl rfl kk) ?_
  obtain ⟨cl3, Ar3, q3, Sz3, Nn3, Hh3, G3⟩ := id (Vt)
  have ln3 := len_of Sz3 Nn3
  refine go_of (B := (s₁.setTop (mkF m 12 #[.val (.ref t), .val (.ref tt), .val (.int (0 : Int32))] [(.int (1 : Int32)), (.int (0 : Int32))]))) (fun _ kk => X0.arraylength hx (by rw [e0]; exact Ar3.1) (State.isArrayOf_alike hZ.alike Ar3.2.1) (g := (mkF m 11 #[.val (.ref t), .val (.ref tt), .val (.int (0 : Int32))] [(.ref t), (.int (0 : Int32))])) rfl rfl (hb hby d16_11) _ (by rw [ln3]; exact kk)) ?_
  refine go_of (B := (s₁.setTop (mkF m 15 #[.val (.ref t), .val (.ref tt), .val (.int (0 : Int32))] []))) (fun _ kk => XS.icmpNo X0.here hx rfl (hb hby d16_12) rfl (tlt (by decide : (0 : Int32) < (1 : Int32))).2.1 kk) ?_
  refine go_of (B := (s₁.setTop (mkF m 16 #[.val (.ref t), .val (.ref tt), .val (.int (0 : Int32))] [(.ref t)]))) (fun _ kk => XS.aloadN X0.here hx rfl (hb hby d16_15) rfl rfl kk) ?_
  refine go_of (B := (s₁.setTop (mkF m 17 #[.val (.ref t), .val (.ref tt), .val (.int (0 : Int32))] [(.int (0 : Int32)), (.ref t)]))) (fun _ kk => XS.iloadN X0.here hx rfl (hb hby d16_16) rfl kk) ?_
  obtain ⟨cl4, Ar4, q4, Sz4, Nn4, Hh4, G4⟩ := id (Vt)
  refine go_of (B := (s₁.setTop (mkF m 18 #[.val (.ref t), .val (.ref tt), .val (.int (0 : Int32))] [(.int c0)]))) (fun _ kk => X0.baloadBytes hx (j := (0 : Int32)) (v := (.int c0)) (by rw [e0]; exact Ar4.1) (State.isArrayOf_alike hZ.alike Ar4.2.1) Ar4.2.2 (inb_of Sz4 ⟨by decide, by decide⟩) (Hh4.at (inb_of Sz4 ⟨by decide, by decide⟩) rfl) (g := (mkF m 17 #[.val (.ref t), .val (.ref tt), .val (.int (0 : Int32))] [(.int (0 : Int32)), (.ref t)])) rfl rfl (hb hby d16_17) _ kk) ?_
  refine go_of (B := (s₁.setTop (mkF m 19 #[.val (.ref t), .val (.ref tt), .val (.int (0 : Int32))] [(.ref tt), (.int c0)]))) (fun _ kk => XS.aloadN X0.here hx rfl (hb hby d16_18) rfl rfl kk) ?_
  refine go_of (B := (s₁.setTop (mkF m 20 #[.val (.ref t), .val (.ref tt), .val (.int (0 : Int32))] [(.int (0 : Int32)), (.ref tt), (.int c0)]))) (fun _ kk => XS.iloadN X0.here hx rfl (hb hby d16_19) rfl kk) ?_
  obtain ⟨cl5, Ar5, q5, Sz5, Nn5, Hh5, G5⟩ := id (Vtt)
  refine go_of (B := (s₁.setTop (mkF m 21 #[.val (.ref t), .val (.ref tt), .val (.int (0 : Int32))] [(.int d0), (.int c0)]))) (fun _ kk => X0.baloadBytes hx (j := (0 : Int32)) (v := (.int d0)) (by rw [e0]; exact Ar5.1) (State.isArrayOf_alike hZ.alike Ar5.2.1) Ar5.2.2 (inb_of Sz5 ⟨by decide, by decide⟩) (Hh5.at (inb_of Sz5 ⟨by decide, by decide⟩) rfl) (g := (mkF m 20 #[.val (.ref t), .val (.ref tt), .val (.int (0 : Int32))] [(.int (0 : Int32)), (.ref tt), (.int c0)])) rfl rfl (hb hby d16_20) _ kk) ?_
  by_cases hc6 : c0 = d0
  · refine go_of (B := (s₁.setTop (mkF m 26 #[.val (.ref t), .val (.ref tt), .val (.int (0 : Int32))] []))) (fun _ kk => XS.icmpYes X0.here hx rfl (pc0 := 21) (pc' := 26) rfl (hb hby d16_21) rfl (teq hc6).1 (by decide) (by decide) kk) ?_
    refine go_of (B := (s₁.setTop (mkF m 29 #[.val (.ref t), .val (.ref tt), .val (.int (1 : Int32))] []))) (fun _ kk => XS.iinc X0.here hx rfl (hb hby d16_26) rfl rfl kk) ?_
    refine go_of (B := (s₁.setTop (mkF m 9 #[.val (.ref t), .val (.ref tt), .val (.int (1 : Int32))] []))) (fun _ kk => XS.goto X0.here hx rfl (pc0 := 29) (pc' := 9) rfl (hb hby d16_29) (by decide) (by decide) kk) ?_
    refine go_of (B := (s₁.setTop (mkF m 10 #[.val (.ref t), .val (.ref tt), .val (.int (1 : Int32))] [(.int (1 : Int32))]))) (fun _ kk => XS.iloadN X0.here hx rfl (hb hby d16_9) rfl kk) ?_
    refine go_of (B := (s₁.setTop (mkF m 11 #[.val (.ref t), .val (.ref tt), .val (.int (1 : Int32))] [(.ref t), (.int (1 : Int32))]))) (fun _ kk => XS.aloadN X0.here hx rfl (hb hby d16_10) rfl rfl kk) ?_
    obtain ⟨cl7, Ar7, q7, Sz7, Nn7, Hh7, G7⟩ := id (Vt)
    have ln7 := len_of Sz7 Nn7
    refine go_of (B := (s₁.setTop (mkF m 12 #[.val (.ref t), .val (.ref tt), .val (.int (1 : Int32))] [(.int (1 : Int32)), (.int (1 : Int32))]))) (fun _ kk => X0.arraylength hx (by rw [e0]; exact Ar7.1) (State.isArrayOf_alike hZ.alike Ar7.2.1) (g := (mkF m 11 #[.val (.ref t), .val (.ref tt), .val (.int (1 : Int32))] [(.ref t), (.int (1 : Int32))])) rfl rfl (hb hby d16_11) _ (by rw [ln7]; exact kk)) ?_
    refine go_of (B := (s₁.setTop (mkF m 32 #[.val (.ref t), .val (.ref tt), .val (.int (1 : Int32))] []))) (fun _ kk => XS.icmpYes X0.here hx rfl (pc0 := 12) (pc' := 32) rfl (hb hby d16_12) rfl (flt (by decide : ¬ ((1 : Int32) < (1 : Int32)))).2.1 (by decide) (by decide) kk) ?_
    refine go_of (B := (s₁.setTop (mkF m 33 #[.val (.ref t), .val (.ref tt), .val (.int (1 : Int32))] [(.int (1 : Int32))]))) (fun _ kk => XS.iconst X0.here hx rfl (hb hby d16_32) kk) ?_
    refine go_end X0 (v := some (.int (nar .boolean (1 : Int32)))) (fun h => by rw [Bd.returns] at h; cases h) Bd.notSynchronized (by decide) (by decide) (Q := (Q_str_lat_1_1 Z t tt c0 d0 k kk h0 n0)) ?_ (fun fs hr => retN X0 hx (t := .boolean) Bd.returns (by simp) (hb hby d16_33) hr)
    show (fun (v : Option Value) (h : Heap) (L : List Loc) => v = some (.int (own_eqv [c0] [d0])) ∧ Fr n0 L ∧ h = h0) (some (.int (nar .boolean (1 : Int32)))) s₁.heap _
    rw [e0]
    refine ⟨?_, N0, rfl⟩
    simp [own_eqv, nar, hc6]
  · refine go_of (B := (s₁.setTop (mkF m 24 #[.val (.ref t), .val (.ref tt), .val (.int (0 : Int32))] []))) (fun _ kk => XS.icmpNo X0.here hx rfl (hb hby d16_21) rfl (feq hc6).1 kk) ?_
    refine go_of (B := (s₁.setTop (mkF m 25 #[.val (.ref t), .val (.ref tt), .val (.int (0 : Int32))] [(.int (0 : Int32))]))) (fun _ kk => XS.iconst X0.here hx rfl (hb hby d16_24) kk) ?_
    refine go_end X0 (v := some (.int (nar .boolean (0 : Int32)))) (fun h => by rw [Bd.returns] at h; cases h) Bd.notSynchronized (by decide) (by decide) (Q := (Q_str_lat_1_1 Z t tt c0 d0 k kk h0 n0)) ?_ (fun fs hr => retN X0 hx (t := .boolean) Bd.returns (by simp) (hb hby d16_25) hr)
    show (fun (v : Option Value) (h : Heap) (L : List Loc) => v = some (.int (own_eqv [c0] [d0])) ∧ Fr n0 L ∧ h = h0) (some (.int (nar .boolean (0 : Int32)))) s₁.heap _
    rw [e0]
    refine ⟨?_, N0, rfl⟩
    simp [own_eqv, nar, hc6]
theorem d16_34 : decode jdk_43_method_13_code 34 = .ok (.iconst 0, 1) := by decide +kernel
theorem d16_35 : decode jdk_43_method_13_code 35 = .ok (.ireturn, 1) := by decide +kernel
def Q_str_lat_1_2 (Z : State) (t : Addr) (tt : Addr) (c0 : Int32) (d0 : Int32) (d1 : Int32) (k : ClassId) (kk : ClassId) (h0 : Heap) (n0 : Nat) (v : Option Value) (h : Heap) (L : List Loc) : Prop := v = some (.int (own_eqv [c0] [d0, d1])) ∧ Fr n0 L ∧ h = h0
theorem ef_str_lat_1_2 (m : MethodId) (t : Addr) (tt : Addr)  : entryFrame m #[(.ref t), (.ref tt)] 3 = mkF m 0 #[.val (.ref t), .val (.ref tt), .unset] [] := by first | (simp [entryFrame, mkF, argsToLocals, Value.category]; done) | rfl
set_option maxRecDepth 65536 in
set_option maxHeartbeats 40000000 in
theorem str_lat_1_2 (l : Launch) (Z : State) (a0 : Array Value) (hw : ∀ d ∈ tables_1, d.before a0 Z = true) (ws : List Jvm.Cond) (t : Addr) (tt : Addr) (c0 : Int32) (d0 : Int32) (d1 : Int32) (k : ClassId) (kk : ClassId) (h0 : Heap) (n0 : Nat) (Z0 : n0 ≤ h0.size) (Vt : Arv Z h0 t k .byte 1 [(.int c0)] (.int 0)) (Vtt : Arv Z h0 tt kk .byte 2 [(.int d0), (.int d1)] (.int 0)) :
    MetFree l (⟨"java/lang/StringLatin1", "equals", "([B[B)Z"⟩ : MethodName) (head1 (Jvm.Cond.code (⟨"java/lang/StringLatin1", "equals", "([B[B)Z"⟩ : MethodName) jdk_43_method_13_code 3 (some .boolean) :: ws) ({ frames := 0, cells := 0, slots := 0, locals := 0 } : Room)) (fun aa' U1' => aa' = #[(.ref t), (.ref tt)] ∧ Z.Warmed39 U1'.vm ∧ U1'.heap = h0) (fun _ _ _ _ _ => True) (fun _ U1' oo' U2' => ∃ vv' LL', oo' = .returned vv' ∧ (Q_str_lat_1_2 Z t tt c0 d0 d1 k kk h0 n0) vv' U2'.heap LL' ∧ FrameEnd U1' oo' U2' LL' ({ frames := 0, cells := 0, slots := 0, locals := 0 } : Room).cells ({ frames := 0, cells := 0, slots := 0, locals := 0 } : Room).slots) := by
  refine MetFree.of_bodySF (plainFor_of_name pn_java_lang_StringLatin1) hisR ?_
  intro p e s m args below meth c s₁ Bd hml0 hP hK
  obtain ⟨rfl, hZ, hh⟩ := hP
  have hx := Bd.exec
  have hby := Bd.bytes
  have hml : c.maxLocals = 3 := hml0
  have hown : s.vm.findClass "java/lang/StringLatin1" = some m.cls := findClass_of_methodNamed Bd.named
  have hnm := (name_of_methodNamed Bd.named Bd.method).1
  have X0 : Stand p l e ({ frames := 0, cells := 0, slots := 0, locals := 0 } : Room) s m #[(.ref t), (.ref tt)] below meth c s₁ [] 0 0 := Stand.of_body Bd
  have e0 : s₁.heap = h0 := by rw [← hh, Bd.state]; rfl
  have N0 := Fr.nil n0
  refine go_of (A := s₁.setTop (entryFrame m #[(.ref t), (.ref tt)] 3)) (B := s₁.setTop (mkF m 0 #[.val (.ref t), .val (.ref tt), .unset] [])) (fun _ kk' => castTop (ef_str_lat_1_2 m t tt) kk') ?_
  refine go_of (B := (s₁.setTop (mkF m 1 #[.val (.ref t), .val (.ref tt), .unset] [(.ref t)]))) (fun _ kk => XS.aloadN X0.here hx rfl (hb hby d16_0) rfl rfl kk) ?_
  obtain ⟨cl1, Ar1, q1, Sz1, Nn1, Hh1, G1⟩ := id (Vt)
  have ln1 := len_of Sz1 Nn1
  refine go_of (B := (s₁.setTop (mkF m 2 #[.val (.ref t), .val (.ref tt), .unset] [(.int (1 : Int32))]))) (fun _ kk => X0.arraylength hx (by rw [e0]; exact Ar1.1) (State.isArrayOf_alike hZ.alike Ar1.2.1) (g := (mkF m 1 #[.val (.ref t), .val (.ref tt), .unset] [(.ref t)])) rfl rfl (hb hby d16_1) _ (by rw [ln1]; exact kk)) ?_
  refine go_of (B := (s₁.setTop (mkF m 3 #[.val (.ref t), .val (.ref tt), .unset] [(.ref tt), (.int (1 : Int32))]))) (fun _ kk => XS.aloadN X0.here hx rfl (hb hby d16_2) rfl rfl kk) ?_
  obtain ⟨cl2, Ar2, q2, Sz2, Nn2, Hh2, G2⟩ := id (Vtt)
  have ln2 := len_of Sz2 Nn2
  refine go_of (B := (s₁.setTop (mkF m 4 #[.val (.ref t), .val (.ref tt), .unset] [(.int (2 : Int32)), (.int (1 : Int32))]))) (fun _ kk => X0.arraylength hx (by rw [e0]; exact Ar2.1) (State.isArrayOf_alike hZ.alike Ar2.2.1) (g := (mkF m 3 #[.val (.ref t), .val (.ref tt), .unset] [(.ref tt), (.int (1 : Int32))])) rfl rfl (hb hby d16_3) _ (by rw [ln2]; exact kk)) ?_
  refine go_of (B := (s₁.setTop (mkF m 34 #[.val (.ref t), .val (.ref tt), .unset] []))) (fun _ kk => XS.icmpYes X0.here hx rfl (pc0 := 4) (pc' := 34) rfl (hb hby d16_4) rfl (feq (by decide : ¬ ((1 : Int32) = (2 : Int32)))).2 (by decide) (by decide) kk) ?_
  refine go_of (B := (s₁.setTop (mkF m 35 #[.val (.ref t), .val (.ref tt), .unset] [(.int (0 : Int32))]))) (fun _ kk => XS.iconst X0.here hx rfl (hb hby d16_34) kk) ?_
  refine go_end X0 (v := some (.int (nar .boolean (0 : Int32)))) (fun h => by rw [Bd.returns] at h; cases h) Bd.notSynchronized (by decide) (by decide) (Q := (Q_str_lat_1_2 Z t tt c0 d0 d1 k kk h0 n0)) ?_ (fun fs hr => retN X0 hx (t := .boolean) Bd.returns (by simp) (hb hby d16_35) hr)
  show (fun (v : Option Value) (h : Heap) (L : List Loc) => v = some (.int (own_eqv [c0] [d0, d1])) ∧ Fr n0 L ∧ h = h0) (some (.int (nar .boolean (0 : Int32)))) s₁.heap _
  rw [e0]
  refine ⟨?_, N0, rfl⟩
  simp [own_eqv, nar]
def Q_str_lat_2_1 (Z : State) (t : Addr) (tt : Addr) (c0 : Int32) (c1 : Int32) (d0 : Int32) (k : ClassId) (kk : ClassId) (h0 : Heap) (n0 : Nat) (v : Option Value) (h : Heap) (L : List Loc) : Prop := v = some (.int (own_eqv [c0, c1] [d0])) ∧ Fr n0 L ∧ h = h0
theorem ef_str_lat_2_1 (m : MethodId) (t : Addr) (tt : Addr)  : entryFrame m #[(.ref t), (.ref tt)] 3 = mkF m 0 #[.val (.ref t), .val (.ref tt), .unset] [] := by first | (simp [entryFrame, mkF, argsToLocals, Value.category]; done) | rfl
set_option maxRecDepth 65536 in
set_option maxHeartbeats 40000000 in
theorem str_lat_2_1 (l : Launch) (Z : State) (a0 : Array Value) (hw : ∀ d ∈ tables_1, d.before a0 Z = true) (ws : List Jvm.Cond) (t : Addr) (tt : Addr) (c0 : Int32) (c1 : Int32) (d0 : Int32) (k : ClassId) (kk : ClassId) (h0 : Heap) (n0 : Nat) (Z0 : n0 ≤ h0.size) (Vt : Arv Z h0 t k .byte 2 [(.int c0), (.int c1)] (.int 0)) (Vtt : Arv Z h0 tt kk .byte 1 [(.int d0)] (.int 0)) :
    MetFree l (⟨"java/lang/StringLatin1", "equals", "([B[B)Z"⟩ : MethodName) (head1 (Jvm.Cond.code (⟨"java/lang/StringLatin1", "equals", "([B[B)Z"⟩ : MethodName) jdk_43_method_13_code 3 (some .boolean) :: ws) ({ frames := 0, cells := 0, slots := 0, locals := 0 } : Room)) (fun aa' U1' => aa' = #[(.ref t), (.ref tt)] ∧ Z.Warmed39 U1'.vm ∧ U1'.heap = h0) (fun _ _ _ _ _ => True) (fun _ U1' oo' U2' => ∃ vv' LL', oo' = .returned vv' ∧ (Q_str_lat_2_1 Z t tt c0 c1 d0 k kk h0 n0) vv' U2'.heap LL' ∧ FrameEnd U1' oo' U2' LL' ({ frames := 0, cells := 0, slots := 0, locals := 0 } : Room).cells ({ frames := 0, cells := 0, slots := 0, locals := 0 } : Room).slots) := by
  refine MetFree.of_bodySF (plainFor_of_name pn_java_lang_StringLatin1) hisR ?_
  intro p e s m args below meth c s₁ Bd hml0 hP hK
  obtain ⟨rfl, hZ, hh⟩ := hP
  have hx := Bd.exec
  have hby := Bd.bytes
  have hml : c.maxLocals = 3 := hml0
  have hown : s.vm.findClass "java/lang/StringLatin1" = some m.cls := findClass_of_methodNamed Bd.named
  have hnm := (name_of_methodNamed Bd.named Bd.method).1
  have X0 : Stand p l e ({ frames := 0, cells := 0, slots := 0, locals := 0 } : Room) s m #[(.ref t), (.ref tt)] below meth c s₁ [] 0 0 := Stand.of_body Bd
  have e0 : s₁.heap = h0 := by rw [← hh, Bd.state]; rfl
  have N0 := Fr.nil n0
  refine go_of (A := s₁.setTop (entryFrame m #[(.ref t), (.ref tt)] 3)) (B := s₁.setTop (mkF m 0 #[.val (.ref t), .val (.ref tt), .unset] [])) (fun _ kk' => castTop (ef_str_lat_2_1 m t tt) kk') ?_
  refine go_of (B := (s₁.setTop (mkF m 1 #[.val (.ref t), .val (.ref tt), .unset] [(.ref t)]))) (fun _ kk => XS.aloadN X0.here hx rfl (hb hby d16_0) rfl rfl kk) ?_
  obtain ⟨cl1, Ar1, q1, Sz1, Nn1, Hh1, G1⟩ := id (Vt)
  have ln1 := len_of Sz1 Nn1
  refine go_of (B := (s₁.setTop (mkF m 2 #[.val (.ref t), .val (.ref tt), .unset] [(.int (2 : Int32))]))) (fun _ kk => X0.arraylength hx (by rw [e0]; exact Ar1.1) (State.isArrayOf_alike hZ.alike Ar1.2.1) (g := (mkF m 1 #[.val (.ref t), .val (.ref tt), .unset] [(.ref t)])) rfl rfl (hb hby d16_1) _ (by rw [ln1]; exact kk)) ?_
  refine go_of (B := (s₁.setTop (mkF m 3 #[.val (.ref t), .val (.ref tt), .unset] [(.ref tt), (.int (2 : Int32))]))) (fun _ kk => XS.aloadN X0.here hx rfl (hb hby d16_2) rfl rfl kk) ?_
  obtain ⟨cl2, Ar2, q2, Sz2, Nn2, Hh2, G2⟩ := id (Vtt)
  have ln2 := len_of Sz2 Nn2
  refine go_of (B := (s₁.setTop (mkF m 4 #[.val (.ref t), .val (.ref tt), .unset] [(.int (1 : Int32)), (.int (2 : Int32))]))) (fun _ kk => X0.arraylength hx (by rw [e0]; exact Ar2.1) (State.isArrayOf_alike hZ.alike Ar2.2.1) (g := (mkF m 3 #[.val (.ref t), .val (.ref tt), .unset] [(.ref tt), (.int (2 : Int32))])) rfl rfl (hb hby d16_3) _ (by rw [ln2]; exact kk)) ?_
  refine go_of (B := (s₁.setTop (mkF m 34 #[.val (.ref t), .val (.ref tt), .unset] []))) (fun _ kk => XS.icmpYes X0.here hx rfl (pc0 := 4) (pc' := 34) rfl (hb hby d16_4) rfl (feq (by decide : ¬ ((2 : Int32) = (1 : Int32)))).2 (by decide) (by decide) kk) ?_
  refine go_of (B := (s₁.setTop (mkF m 35 #[.val (.ref t), .val (.ref tt), .unset] [(.int (0 : Int32))]))) (fun _ kk => XS.iconst X0.here hx rfl (hb hby d16_34) kk) ?_
  refine go_end X0 (v := some (.int (nar .boolean (0 : Int32)))) (fun h => by rw [Bd.returns] at h; cases h) Bd.notSynchronized (by decide) (by decide) (Q := (Q_str_lat_2_1 Z t tt c0 c1 d0 k kk h0 n0)) ?_ (fun fs hr => retN X0 hx (t := .boolean) Bd.returns (by simp) (hb hby d16_35) hr)
  show (fun (v : Option Value) (h : Heap) (L : List Loc) => v = some (.int (own_eqv [c0, c1] [d0])) ∧ Fr n0 L ∧ h = h0) (some (.int (nar .boolean (0 : Int32)))) s₁.heap _
  rw [e0]
  refine ⟨?_, N0, rfl⟩
  simp [own_eqv, nar]
def Q_str_lat_2_2 (Z : State) (t : Addr) (tt : Addr) (c0 : Int32) (c1 : Int32) (d0 : Int32) (d1 : Int32) (k : ClassId) (kk : ClassId) (h0 : Heap) (n0 : Nat) (v : Option Value) (h : Heap) (L : List Loc) : Prop := v = some (.int (own_eqv [c0, c1] [d0, d1])) ∧ Fr n0 L ∧ h = h0
theorem ef_str_lat_2_2 (m : MethodId) (t : Addr) (tt : Addr)  : entryFrame m #[(.ref t), (.ref tt)] 3 = mkF m 0 #[.val (.ref t), .val (.ref tt), .unset] [] := by first | (simp [entryFrame, mkF, argsToLocals, Value.category]; done) | rfl
set_option maxRecDepth 65536 in
set_option maxHeartbeats 40000000 in
theorem str_lat_2_2 (l : Launch) (Z : State) (a0 : Array Value) (hw : ∀ d ∈ tables_1, d.before a0 Z = true) (ws : List Jvm.Cond) (t : Addr) (tt : Addr) (c0 : Int32) (c1 : Int32) (d0 : Int32) (d1 : Int32) (k : ClassId) (kk : ClassId) (h0 : Heap) (n0 : Nat) (Z0 : n0 ≤ h0.size) (Vt : Arv Z h0 t k .byte 2 [(.int c0), (.int c1)] (.int 0)) (Vtt : Arv Z h0 tt kk .byte 2 [(.int d0), (.int d1)] (.int 0)) :
    MetFree l (⟨"java/lang/StringLatin1", "equals", "([B[B)Z"⟩ : MethodName) (head1 (Jvm.Cond.code (⟨"java/lang/StringLatin1", "equals", "([B[B)Z"⟩ : MethodName) jdk_43_method_13_code 3 (some .boolean) :: ws) ({ frames := 0, cells := 0, slots := 0, locals := 0 } : Room)) (fun aa' U1' => aa' = #[(.ref t), (.ref tt)] ∧ Z.Warmed39 U1'.vm ∧ U1'.heap = h0) (fun _ _ _ _ _ => True) (fun _ U1' oo' U2' => ∃ vv' LL', oo' = .returned vv' ∧ (Q_str_lat_2_2 Z t tt c0 c1 d0 d1 k kk h0 n0) vv' U2'.heap LL' ∧ FrameEnd U1' oo' U2' LL' ({ frames := 0, cells := 0, slots := 0, locals := 0 } : Room).cells ({ frames := 0, cells := 0, slots := 0, locals := 0 } : Room).slots) := by
  refine MetFree.of_bodySF (plainFor_of_name pn_java_lang_StringLatin1) hisR ?_
  intro p e s m args below meth c s₁ Bd hml0 hP hK
  obtain ⟨rfl, hZ, hh⟩ := hP
  have hx := Bd.exec
  have hby := Bd.bytes
  have hml : c.maxLocals = 3 := hml0
  have hown : s.vm.findClass "java/lang/StringLatin1" = some m.cls := findClass_of_methodNamed Bd.named
  have hnm := (name_of_methodNamed Bd.named Bd.method).1
  have X0 : Stand p l e ({ frames := 0, cells := 0, slots := 0, locals := 0 } : Room) s m #[(.ref t), (.ref tt)] below meth c s₁ [] 0 0 := Stand.of_body Bd
  have e0 : s₁.heap = h0 := by rw [← hh, Bd.state]; rfl
  have N0 := Fr.nil n0
  refine go_of (A := s₁.setTop (entryFrame m #[(.ref t), (.ref tt)] 3)) (B := s₁.setTop (mkF m 0 #[.val (.ref t), .val (.ref tt), .unset] [])) (fun _ kk' => castTop (ef_str_lat_2_2 m t tt) kk') ?_
  refine go_of (B := (s₁.setTop (mkF m 1 #[.val (.ref t), .val (.ref tt), .unset] [(.ref t)]))) (fun _ kk => XS.aloadN X0.here hx rfl (hb hby d16_0) rfl rfl kk) ?_
  obtain ⟨cl1, Ar1, q1, Sz1, Nn1, Hh1, G1⟩ := id (Vt)
  have ln1 := len_of Sz1 Nn1
  refine go_of (B := (s₁.setTop (mkF m 2 #[.val (.ref t), .val (.ref tt), .unset] [(.int (2 : Int32))]))) (fun _ kk => X0.arraylength hx (by rw [e0]; exact Ar1.1) (State.isArrayOf_alike hZ.alike Ar1.2.1) (g := (mkF m 1 #[.val (.ref t), .val (.ref tt), .unset] [(.ref t)])) rfl rfl (hb hby d16_1) _ (by rw [ln1]; exact kk)) ?_
  refine go_of (B := (s₁.setTop (mkF m 3 #[.val (.ref t), .val (.ref tt), .unset] [(.ref tt), (.int (2 : Int32))]))) (fun _ kk => XS.aloadN X0.here hx rfl (hb hby d16_2) rfl rfl kk) ?_
  obtain ⟨cl2, Ar2, q2, Sz2, Nn2, Hh2, G2⟩ := id (Vtt)
  have ln2 := len_of Sz2 Nn2
  refine go_of (B := (s₁.setTop (mkF m 4 #[.val (.ref t), .val (.ref tt), .unset] [(.int (2 : Int32)), (.int (2 : Int32))]))) (fun _ kk => X0.arraylength hx (by rw [e0]; exact Ar2.1) (State.isArrayOf_alike hZ.alike Ar2.2.1) (g := (mkF m 3 #[.val (.ref t), .val (.ref tt), .unset] [(.ref tt), (.int (2 : Int32))])) rfl rfl (hb hby d16_3) _ (by rw [ln2]; exact kk)) ?_
  refine go_of (B := (s₁.setTop (mkF m 7 #[.val (.ref t), .val (.ref tt), .unset] []))) (fun _ kk => XS.icmpNo X0.here hx rfl (hb hby d16_4) rfl (teq (by decide : (2 : Int32) = (2 : Int32))).2 kk) ?_
  refine go_of (B := (s₁.setTop (mkF m 8 #[.val (.ref t), .val (.ref tt), .unset] [(.int (0 : Int32))]))) (fun _ kk => XS.iconst X0.here hx rfl (hb hby d16_7) kk) ?_
  refine go_of (B := (s₁.setTop (mkF m 9 #[.val (.ref t), .val (.ref tt), .val (.int (0 : Int32))] []))) (fun _ kk => XS.istoreN X0.here hx rfl (hb hby d16_8) rfl rfl kk) ?_
  refine go_of (B := (s₁.setTop (mkF m 10 #[.val (.ref t), .val (.ref tt), .val (.int (0 : Int32))] [(.int (0 : Int32))]))) (fun _ kk => XS.iloadN X0.here hx rfl (hb hby d16_9) rfl kk) ?_
  refine go_of (B := (s₁.setTop (mkF m 11 #[.val (.ref t), .val (.ref tt), .val (.int (0 : Int32))] [(.ref t), (.int (0 : Int32))]))) (fun _ kk => XS.aloadN X0.here hx rfl (hb hby d16_10) rfl rfl kk) ?_
  obtain ⟨cl3, Ar3, q3, Sz3, Nn3, Hh3, G3⟩ := id (Vt)
  have ln3 := len_of Sz3 Nn3
  refine go_of (B := (s₁.setTop (mkF m 12 #[.val (.ref t), .val (.ref tt), .val (.int (0 : Int32))] [(.int (2 : Int32)), (.int (0 : Int32))]))) (fun _ kk => X0.arraylength hx (by rw [e0]; exact Ar3.1) (State.isArrayOf_alike hZ.alike Ar3.2.1) (g := (mkF m 11 #[.val (.ref t), .val (.ref tt), .val (.int (0 : Int32))] [(.ref t), (.int (0 : Int32))])) rfl rfl (hb hby d16_11) _ (by rw [ln3]; exact kk)) ?_
  refine go_of (B := (s₁.setTop (mkF m 15 #[.val (.ref t), .val (.ref tt), .val (.int (0 : Int32))] []))) (fun _ kk => XS.icmpNo X0.here hx rfl (hb hby d16_12) rfl (tlt (by decide : (0 : Int32) < (2 : Int32))).2.1 kk) ?_
  refine go_of (B := (s₁.setTop (mkF m 16 #[.val (.ref t), .val (.ref tt), .val (.int (0 : Int32))] [(.ref t)]))) (fun _ kk => XS.aloadN X0.here hx rfl (hb hby d16_15) rfl rfl kk) ?_
  refine go_of (B := (s₁.setTop (mkF m 17 #[.val (.ref t), .val (.ref tt), .val (.int (0 : Int32))] [(.int (0 : Int32)), (.ref t)]))) (fun _ kk => XS.iloadN X0.here hx rfl (hb hby d16_16) rfl kk) ?_
  obtain ⟨cl4, Ar4, q4, Sz4, Nn4, Hh4, G4⟩ := id (Vt)
  refine go_of (B := (s₁.setTop (mkF m 18 #[.val (.ref t), .val (.ref tt), .val (.int (0 : Int32))] [(.int c0)]))) (fun _ kk => X0.baloadBytes hx (j := (0 : Int32)) (v := (.int c0)) (by rw [e0]; exact Ar4.1) (State.isArrayOf_alike hZ.alike Ar4.2.1) Ar4.2.2 (inb_of Sz4 ⟨by decide, by decide⟩) (Hh4.at (inb_of Sz4 ⟨by decide, by decide⟩) rfl) (g := (mkF m 17 #[.val (.ref t), .val (.ref tt), .val (.int (0 : Int32))] [(.int (0 : Int32)), (.ref t)])) rfl rfl (hb hby d16_17) _ kk) ?_
  refine go_of (B := (s₁.setTop (mkF m 19 #[.val (.ref t), .val (.ref tt), .val (.int (0 : Int32))] [(.ref tt), (.int c0)]))) (fun _ kk => XS.aloadN X0.here hx rfl (hb hby d16_18) rfl rfl kk) ?_
  refine go_of (B := (s₁.setTop (mkF m 20 #[.val (.ref t), .val (.ref tt), .val (.int (0 : Int32))] [(.int (0 : Int32)), (.ref tt), (.int c0)]))) (fun _ kk => XS.iloadN X0.here hx rfl (hb hby d16_19) rfl kk) ?_
  obtain ⟨cl5, Ar5, q5, Sz5, Nn5, Hh5, G5⟩ := id (Vtt)
  refine go_of (B := (s₁.setTop (mkF m 21 #[.val (.ref t), .val (.ref tt), .val (.int (0 : Int32))] [(.int d0), (.int c0)]))) (fun _ kk => X0.baloadBytes hx (j := (0 : Int32)) (v := (.int d0)) (by rw [e0]; exact Ar5.1) (State.isArrayOf_alike hZ.alike Ar5.2.1) Ar5.2.2 (inb_of Sz5 ⟨by decide, by decide⟩) (Hh5.at (inb_of Sz5 ⟨by decide, by decide⟩) rfl) (g := (mkF m 20 #[.val (.ref t), .val (.ref tt), .val (.int (0 : Int32))] [(.int (0 : Int32)), (.ref tt), (.int c0)])) rfl rfl (hb hby d16_20) _ kk) ?_
  by_cases hc6 : c0 = d0
  · refine go_of (B := (s₁.setTop (mkF m 26 #[.val (.ref t), .val (.ref tt), .val (.int (0 : Int32))] []))) (fun _ kk => XS.icmpYes X0.here hx rfl (pc0 := 21) (pc' := 26) rfl (hb hby d16_21) rfl (teq hc6).1 (by decide) (by decide) kk) ?_
    refine go_of (B := (s₁.setTop (mkF m 29 #[.val (.ref t), .val (.ref tt), .val (.int (1 : Int32))] []))) (fun _ kk => XS.iinc X0.here hx rfl (hb hby d16_26) rfl rfl kk) ?_
    refine go_of (B := (s₁.setTop (mkF m 9 #[.val (.ref t), .val (.ref tt), .val (.int (1 : Int32))] []))) (fun _ kk => XS.goto X0.here hx rfl (pc0 := 29) (pc' := 9) rfl (hb hby d16_29) (by decide) (by decide) kk) ?_
    refine go_of (B := (s₁.setTop (mkF m 10 #[.val (.ref t), .val (.ref tt), .val (.int (1 : Int32))] [(.int (1 : Int32))]))) (fun _ kk => XS.iloadN X0.here hx rfl (hb hby d16_9) rfl kk) ?_
    refine go_of (B := (s₁.setTop (mkF m 11 #[.val (.ref t), .val (.ref tt), .val (.int (1 : Int32))] [(.ref t), (.int (1 : Int32))]))) (fun _ kk => XS.aloadN X0.here hx rfl (hb hby d16_10) rfl rfl kk) ?_
    obtain ⟨cl7, Ar7, q7, Sz7, Nn7, Hh7, G7⟩ := id (Vt)
    have ln7 := len_of Sz7 Nn7
    refine go_of (B := (s₁.setTop (mkF m 12 #[.val (.ref t), .val (.ref tt), .val (.int (1 : Int32))] [(.int (2 : Int32)), (.int (1 : Int32))]))) (fun _ kk => X0.arraylength hx (by rw [e0]; exact Ar7.1) (State.isArrayOf_alike hZ.alike Ar7.2.1) (g := (mkF m 11 #[.val (.ref t), .val (.ref tt), .val (.int (1 : Int32))] [(.ref t), (.int (1 : Int32))])) rfl rfl (hb hby d16_11) _ (by rw [ln7]; exact kk)) ?_
    refine go_of (B := (s₁.setTop (mkF m 15 #[.val (.ref t), .val (.ref tt), .val (.int (1 : Int32))] []))) (fun _ kk => XS.icmpNo X0.here hx rfl (hb hby d16_12) rfl (tlt (by decide : (1 : Int32) < (2 : Int32))).2.1 kk) ?_
    refine go_of (B := (s₁.setTop (mkF m 16 #[.val (.ref t), .val (.ref tt), .val (.int (1 : Int32))] [(.ref t)]))) (fun _ kk => XS.aloadN X0.here hx rfl (hb hby d16_15) rfl rfl kk) ?_
    refine go_of (B := (s₁.setTop (mkF m 17 #[.val (.ref t), .val (.ref tt), .val (.int (1 : Int32))] [(.int (1 : Int32)), (.ref t)]))) (fun _ kk => XS.iloadN X0.here hx rfl (hb hby d16_16) rfl kk) ?_
    obtain ⟨cl8, Ar8, q8, Sz8, Nn8, Hh8, G8⟩ := id (Vt)
    refine go_of (B := (s₁.setTop (mkF m 18 #[.val (.ref t), .val (.ref tt), .val (.int (1 : Int32))] [(.int c1)]))) (fun _ kk => X0.baloadBytes hx (j := (1 : Int32)) (v := (.int c1)) (by rw [e0]; exact Ar8.1) (State.isArrayOf_alike hZ.alike Ar8.2.1) Ar8.2.2 (inb_of Sz8 ⟨by decide, by decide⟩) (Hh8.at (inb_of Sz8 ⟨by decide, by decide⟩) rfl) (g := (mkF m 17 #[.val (.ref t), .val (.ref tt), .val (.int (1 : Int32))] [(.int (1 : Int32)), (.ref t)])) rfl rfl (hb hby d16_17) _ kk) ?_
    refine go_of (B := (s₁.setTop (mkF m 19 #[.val (.ref t), .val (.ref tt), .val (.int (1 : Int32))] [(.ref tt), (.int c1)]))) (fun _ kk => XS.aloadN X0.here hx rfl (hb hby d16_18) rfl rfl kk) ?_
    refine go_of (B := (s₁.setTop (mkF m 20 #[.val (.ref t), .val (.ref tt), .val (.int (1 : Int32))] [(.int (1 : Int32)), (.ref tt), (.int c1)]))) (fun _ kk => XS.iloadN X0.here hx rfl (hb hby d16_19) rfl kk) ?_
    obtain ⟨cl9, Ar9, q9, Sz9, Nn9, Hh9, G9⟩ := id (Vtt)
    refine go_of (B := (s₁.setTop (mkF m 21 #[.val (.ref t), .val (.ref tt), .val (.int (1 : Int32))] [(.int d1), (.int c1)]))) (fun _ kk => X0.baloadBytes hx (j := (1 : Int32)) (v := (.int d1)) (by rw [e0]; exact Ar9.1) (State.isArrayOf_alike hZ.alike Ar9.2.1) Ar9.2.2 (inb_of Sz9 ⟨by decide, by decide⟩) (Hh9.at (inb_of Sz9 ⟨by decide, by decide⟩) rfl) (g := (mkF m 20 #[.val (.ref t), .val (.ref tt), .val (.int (1 : Int32))] [(.int (1 : Int32)), (.ref tt), (.int c1)])) rfl rfl (hb hby d16_20) _ kk) ?_
    by_cases hc10 : c1 = d1
    · refine go_of (B := (s₁.setTop (mkF m 26 #[.val (.ref t), .val (.ref tt), .val (.int (1 : Int32))] []))) (fun _ kk => XS.icmpYes X0.here hx rfl (pc0 := 21) (pc' := 26) rfl (hb hby d16_21) rfl (teq hc10).1 (by decide) (by decide) kk) ?_
      refine go_of (B := (s₁.setTop (mkF m 29 #[.val (.ref t), .val (.ref tt), .val (.int (2 : Int32))] []))) (fun _ kk => XS.iinc X0.here hx rfl (hb hby d16_26) rfl rfl kk) ?_
      refine go_of (B := (s₁.setTop (mkF m 9 #[.val (.ref t), .val (.ref tt), .val (.int (2 : Int32))] []))) (fun _ kk => XS.goto X0.here hx rfl (pc0 := 29) (pc' := 9) rfl (hb hby d16_29) (by decide) (by decide) kk) ?_
      refine go_of (B := (s₁.setTop (mkF m 10 #[.val (.ref t), .val (.ref tt), .val (.int (2 : Int32))] [(.int (2 : Int32))]))) (fun _ kk => XS.iloadN X0.here hx rfl (hb hby d16_9) rfl kk) ?_
      refine go_of (B := (s₁.setTop (mkF m 11 #[.val (.ref t), .val (.ref tt), .val (.int (2 : Int32))] [(.ref t), (.int (2 : Int32))]))) (fun _ kk => XS.aloadN X0.here hx rfl (hb hby d16_10) rfl rfl kk) ?_
      obtain ⟨cl11, Ar11, q11, Sz11, Nn11, Hh11, G11⟩ := id (Vt)
      have ln11 := len_of Sz11 Nn11
      refine go_of (B := (s₁.setTop (mkF m 12 #[.val (.ref t), .val (.ref tt), .val (.int (2 : Int32))] [(.int (2 : Int32)), (.int (2 : Int32))]))) (fun _ kk => X0.arraylength hx (by rw [e0]; exact Ar11.1) (State.isArrayOf_alike hZ.alike Ar11.2.1) (g := (mkF m 11 #[.val (.ref t), .val (.ref tt), .val (.int (2 : Int32))] [(.ref t), (.int (2 : Int32))])) rfl rfl (hb hby d16_11) _ (by rw [ln11]; exact kk)) ?_
      refine go_of (B := (s₁.setTop (mkF m 32 #[.val (.ref t), .val (.ref tt), .val (.int (2 : Int32))] []))) (fun _ kk => XS.icmpYes X0.here hx rfl (pc0 := 12) (pc' := 32) rfl (hb hby d16_12) rfl (flt (by decide : ¬ ((2 : Int32) < (2 : Int32)))).2.1 (by decide) (by decide) kk) ?_
      refine go_of (B := (s₁.setTop (mkF m 33 #[.val (.ref t), .val (.ref tt), .val (.int (2 : Int32))] [(.int (1 : Int32))]))) (fun _ kk => XS.iconst X0.here hx rfl (hb hby d16_32) kk) ?_
      refine go_end X0 (v := some (.int (nar .boolean (1 : Int32)))) (fun h => by rw [Bd.returns] at h; cases h) Bd.notSynchronized (by decide) (by decide) (Q := (Q_str_lat_2_2 Z t tt c0 c1 d0 d1 k kk h0 n0)) ?_ (fun fs hr => retN X0 hx (t := .boolean) Bd.returns (by simp) (hb hby d16_33) hr)
      show (fun (v : Option Value) (h : Heap) (L : List Loc) => v = some (.int (own_eqv [c0, c1] [d0, d1])) ∧ Fr n0 L ∧ h = h0) (some (.int (nar .boolean (1 : Int32)))) s₁.heap _
      rw [e0]
      refine ⟨?_, N0, rfl⟩
      simp [own_eqv, nar, hc6, hc10]
    · refine go_of (B := (s₁.setTop (mkF m 24 #[.val (.ref t), .val (.ref tt), .val (.int (1 : Int32))] []))) (fun _ kk => XS.icmpNo X0.here hx rfl (hb hby d16_21) rfl (feq hc10).1 kk) ?_
      refine go_of (B := (s₁.setTop (mkF m 25 #[.val (.ref t), .val (.ref tt), .val (.int (1 : Int32))] [(.int (0 : Int32))]))) (fun _ kk => XS.iconst X0.here hx rfl (hb hby d16_24) kk) ?_
      refine go_end X0 (v := some (.int (nar .boolean (0 : Int32)))) (fun h => by rw [Bd.returns] at h; cases h) Bd.notSynchronized (by decide) (by decide) (Q := (Q_str_lat_2_2 Z t tt c0 c1 d0 d1 k kk h0 n0)) ?_ (fun fs hr => retN X0 hx (t := .boolean) Bd.returns (by simp) (hb hby d16_25) hr)
      show (fun (v : Option Value) (h : Heap) (L : List Loc) => v = some (.int (own_eqv [c0, c1] [d0, d1])) ∧ Fr n0 L ∧ h = h0) (some (.int (nar .boolean (0 : Int32)))) s₁.heap _
      rw [e0]
      refine ⟨?_, N0, rfl⟩
      simp [own_eqv, nar, hc6, hc10]
  · refine go_of (B := (s₁.setTop (mkF m 24 #[.val (.ref t), .val (.ref tt), .val (.int (0 : Int32))] []))) (fun _ kk => XS.icmpNo X0.here hx rfl (hb hby d16_21) rfl (feq hc6).1 kk) ?_
    refine go_of (B := (s₁.setTop (mkF m 25 #[.val (.ref t), .val (.ref tt), .val (.int (0 : Int32))] [(.int (0 : Int32))]))) (fun _ kk => XS.iconst X0.here hx rfl (hb hby d16_24) kk) ?_
    refine go_end X0 (v := some (.int (nar .boolean (0 : Int32)))) (fun h => by rw [Bd.returns] at h; cases h) Bd.notSynchronized (by decide) (by decide) (Q := (Q_str_lat_2_2 Z t tt c0 c1 d0 d1 k kk h0 n0)) ?_ (fun fs hr => retN X0 hx (t := .boolean) Bd.returns (by simp) (hb hby d16_25) hr)
    show (fun (v : Option Value) (h : Heap) (L : List Loc) => v = some (.int (own_eqv [c0, c1] [d0, d1])) ∧ Fr n0 L ∧ h = h0) (some (.int (nar .boolean (0 : Int32)))) s₁.heap _
    rw [e0]
    refine ⟨?_, N0, rfl⟩
    simp [own_eqv, nar, hc6]
theorem d15_0 : decode jdk_42_method_66_code 0 = .ok (.aload_n 0, 1) := by decide +kernel
theorem d15_1 : decode jdk_42_method_66_code 1 = .ok (.aload_n 1, 1) := by decide +kernel
theorem d15_2 : decode jdk_42_method_66_code 2 = .ok (.if_acmp .ne 5, 3) := by decide +kernel
theorem d15_5 : decode jdk_42_method_66_code 5 = .ok (.iconst 1, 1) := by decide +kernel
theorem d15_6 : decode jdk_42_method_66_code 6 = .ok (.ireturn, 1) := by decide +kernel
def Q_str_eq_1_1 (Z : State) (a : Addr) (bb : Addr) (c0 : Int32) (d0 : Int32) (gC : Int32) (h0 : Heap) (n0 : Nat) (v : Option Value) (h : Heap) (L : List Loc) : Prop := v = some (.int (own_eqv [c0] [d0])) ∧ Fr n0 L ∧ h = h0
theorem d15_7 : decode jdk_42_method_66_code 7 = .ok (.aload_n 1, 1) := by decide +kernel
theorem d15_8 : decode jdk_42_method_66_code 8 = .ok (.instanceof 10, 3) := by decide +kernel
theorem d15_11 : decode jdk_42_method_66_code 11 = .ok (.ifCond .eq 43, 3) := by decide +kernel
theorem d15_14 : decode jdk_42_method_66_code 14 = .ok (.aload_n 1, 1) := by decide +kernel
theorem d15_15 : decode jdk_42_method_66_code 15 = .ok (.checkcast 10, 3) := by decide +kernel
theorem d15_18 : decode jdk_42_method_66_code 18 = .ok (.astore_n 2, 1) := by decide +kernel
theorem d15_19 : decode jdk_42_method_66_code 19 = .ok (.getstatic 38, 3) := by decide +kernel
theorem d15_22 : decode jdk_42_method_66_code 22 = .ok (.ifCond .eq 14, 3) := by decide +kernel
theorem d15_25 : decode jdk_42_method_66_code 25 = .ok (.aload_n 0, 1) := by decide +kernel
theorem d15_26 : decode jdk_42_method_66_code 26 = .ok (.getfield 15, 3) := by decide +kernel
theorem d15_29 : decode jdk_42_method_66_code 29 = .ok (.aload_n 2, 1) := by decide +kernel
theorem d15_30 : decode jdk_42_method_66_code 30 = .ok (.getfield 15, 3) := by decide +kernel
theorem d15_33 : decode jdk_42_method_66_code 33 = .ok (.if_icmp .ne 21, 3) := by decide +kernel
theorem d15_36 : decode jdk_42_method_66_code 36 = .ok (.aload_n 0, 1) := by decide +kernel
theorem d15_37 : decode jdk_42_method_66_code 37 = .ok (.getfield 9, 3) := by decide +kernel
theorem d15_40 : decode jdk_42_method_66_code 40 = .ok (.aload_n 2, 1) := by decide +kernel
theorem d15_41 : decode jdk_42_method_66_code 41 = .ok (.getfield 9, 3) := by decide +kernel
theorem d15_44 : decode jdk_42_method_66_code 44 = .ok (.invokestatic 541, 3) := by decide +kernel
theorem pd___B_B_Z : parseMethodDescriptor "([B[B)Z" = some ⟨[(.array .byte), (.array .byte)], some .boolean⟩ := by decide +kernel
theorem d15_47 : decode jdk_42_method_66_code 47 = .ok (.ifCond .eq 7, 3) := by decide +kernel
theorem d15_54 : decode jdk_42_method_66_code 54 = .ok (.iconst 0, 1) := by decide +kernel
theorem d15_55 : decode jdk_42_method_66_code 55 = .ok (.ireturn, 1) := by decide +kernel
theorem d15_50 : decode jdk_42_method_66_code 50 = .ok (.iconst 1, 1) := by decide +kernel
theorem d15_51 : decode jdk_42_method_66_code 51 = .ok (.goto 4, 3) := by decide +kernel
theorem pn_java_lang_String : plainName "java/lang/String" = true := by first | (simp [plainName, overriddenIn]; done) | decide +kernel
theorem ef_str_eq_1_1 (m : MethodId) (a : Addr) (bb : Addr)  : entryFrame m #[(.ref a), (.ref bb)] 3 = mkF m 0 #[.val (.ref a), .val (.ref bb), .unset] [] := by first | (simp [entryFrame, mkF, argsToLocals, Value.category]; done) | rfl
set_option maxRecDepth 65536 in
set_option maxHeartbeats 40000000 in
theorem str_eq_1_1 (l : Launch) (Z : State) (a0 : Array Value) (hw : ∀ d ∈ tables_1, d.before a0 Z = true) (ws : List Jvm.Cond) (a : Addr) (bb : Addr) (c0 : Int32) (d0 : Int32) (gC : Int32) (h0 : Heap) (n0 : Nat) (Z0 : n0 ≤ h0.size) (O : Old Z n0 h0) (SC : Sta Z Z.heap "java/lang/String" "COMPACT_STRINGS" "Z" (.int gC)) (hgC : ¬ gC = (0 : Int32)) (S1 : Str Z h0 a 1 [c0]) (S2 : Str Z h0 bb 1 [d0]) (hab : a = bb → [c0] = [d0]) :
    MetFree l (⟨"java/lang/String", "equals", "(Ljava/lang/Object;)Z"⟩ : MethodName) (head1 (Jvm.Cond.code (⟨"java/lang/String", "equals", "(Ljava/lang/Object;)Z"⟩ : MethodName) jdk_42_method_66_code 3 (some .boolean) :: ws) ({ frames := 1, cells := 0, slots := 0, locals := 14 } : Room)) (fun aa' U1' => aa' = #[(.ref a), (.ref bb)] ∧ Z.Warmed39 U1'.vm ∧ U1'.heap = h0) (fun _ _ _ _ _ => True) (fun _ U1' oo' U2' => ∃ vv' LL', oo' = .returned vv' ∧ (Q_str_eq_1_1 Z a bb c0 d0 gC h0 n0) vv' U2'.heap LL' ∧ FrameEnd U1' oo' U2' LL' ({ frames := 1, cells := 0, slots := 0, locals := 14 } : Room).cells ({ frames := 1, cells := 0, slots := 0, locals := 14 } : Room).slots) := by
  refine MetFree.of_bodySF (plainFor_of_name pn_java_lang_String) hisR ?_
  intro p e s m args below meth c s₁ Bd hml0 hP hK
  obtain ⟨rfl, hZ, hh⟩ := hP
  have hx := Bd.exec
  have hby := Bd.bytes
  have hml : c.maxLocals = 3 := hml0
  have hown : s.vm.findClass "java/lang/String" = some m.cls := findClass_of_methodNamed Bd.named
  have hnm := (name_of_methodNamed Bd.named Bd.method).1
  have X0 : Stand p l e ({ frames := 1, cells := 0, slots := 0, locals := 14 } : Room) s m #[(.ref a), (.ref bb)] below meth c s₁ [] 0 0 := Stand.of_body Bd
  have e0 : s₁.heap = h0 := by rw [← hh, Bd.state]; rfl
  have N0 := Fr.nil n0
  obtain ⟨t, k, Ea, Fc, Fv, Va, hcs, hat⟩ := S1
  obtain ⟨tt, kk, Eb, Fcb, Fvb, Vb, hds, hbt⟩ := S2
  refine go_of (A := s₁.setTop (entryFrame m #[(.ref a), (.ref bb)] 3)) (B := s₁.setTop (mkF m 0 #[.val (.ref a), .val (.ref bb), .unset] [])) (fun _ kk' => castTop (ef_str_eq_1_1 m a bb) kk') ?_
  refine go_of (B := (s₁.setTop (mkF m 1 #[.val (.ref a), .val (.ref bb), .unset] [(.ref a)]))) (fun _ kk => XS.aloadN X0.here hx rfl (hb hby d15_0) rfl rfl kk) ?_
  refine go_of (B := (s₁.setTop (mkF m 2 #[.val (.ref a), .val (.ref bb), .unset] [(.ref bb), (.ref a)]))) (fun _ kk => XS.aloadN X0.here hx rfl (hb hby d15_1) rfl rfl kk) ?_
  by_cases ha1 : a = bb
  · refine go_of (B := (s₁.setTop (mkF m 5 #[.val (.ref a), .val (.ref bb), .unset] []))) (fun _ kk => Jvm.RoadKit.acmp (g := (mkF m 2 #[.val (.ref a), .val (.ref bb), .unset] [(.ref bb), (.ref a)])) X0 hx rfl rfl rfl (pc0 := 2) (pc' := 5) (same := true) rfl (hb hby d15_2) rfl (decide_eq_true (congrArg Value.ref ha1)) (by decide) (by decide) kk) ?_
    refine go_of (B := (s₁.setTop (mkF m 6 #[.val (.ref a), .val (.ref bb), .unset] [(.int (1 : Int32))]))) (fun _ kk => XS.iconst X0.here hx rfl (hb hby d15_5) kk) ?_
    refine go_end X0 (v := some (.int (nar .boolean (1 : Int32)))) (fun h => by rw [Bd.returns] at h; cases h) Bd.notSynchronized (by decide) (by decide) (Q := (Q_str_eq_1_1 Z a bb c0 d0 gC h0 n0)) ?_ (fun fs hr => retN X0 hx (t := .boolean) Bd.returns (by simp) (hb hby d15_6) hr)
    show (fun (v : Option Value) (h : Heap) (L : List Loc) => v = some (.int (own_eqv [c0] [d0])) ∧ Fr n0 L ∧ h = h0) (some (.int (nar .boolean (1 : Int32)))) s₁.heap _
    rw [e0]
    refine ⟨?_, N0, rfl⟩
    simp [own_eqv, nar, hab ha1]
  · refine go_of (B := (s₁.setTop (mkF m 7 #[.val (.ref a), .val (.ref bb), .unset] []))) (fun _ kk => Jvm.RoadKit.acmp (g := (mkF m 2 #[.val (.ref a), .val (.ref bb), .unset] [(.ref bb), (.ref a)])) X0 hx rfl rfl rfl (pc0 := 2) (pc' := 7) (same := false) rfl (hb hby d15_2) rfl (decide_eq_false fun q => ha1 (Value.ref.inj q)) (by decide) (by decide) kk) ?_
    refine go_of (B := (s₁.setTop (mkF m 8 #[.val (.ref a), .val (.ref bb), .unset] [(.ref bb)]))) (fun _ kk => XS.aloadN X0.here hx rfl (hb hby d15_7) rfl rfl kk) ?_
    obtain ⟨T2, X2, e2, st2⟩ := instY X0 hx hZ hown (hw _ (List.mem_of_getElem? (i := 98) rfl)) e0 (Ins.self Eb) (g := (mkF m 8 #[.val (.ref a), .val (.ref bb), .unset] [(.ref bb)])) rfl rfl (hb hby d15_8)
    refine go_of (B := (T2.setTop (mkF m 11 #[.val (.ref a), .val (.ref bb), .unset] [(.int (1 : Int32))]))) (st2) ?_
    refine go_of (B := (T2.setTop (mkF m 14 #[.val (.ref a), .val (.ref bb), .unset] []))) (fun _ kk => XS.ifNo X2.here hx rfl (hb hby d15_11) rfl ((if0 _ _).trans (feq (by decide : ¬ ((1 : Int32) = (0 : Int32)))).1) kk) ?_
    refine go_of (B := (T2.setTop (mkF m 15 #[.val (.ref a), .val (.ref bb), .unset] [(.ref bb)]))) (fun _ kk => XS.aloadN X2.here hx rfl (hb hby d15_14) rfl rfl kk) ?_
    obtain ⟨T3, X3, e3, st3⟩ := castY X2 hx hZ hown (hw _ (List.mem_of_getElem? (i := 98) rfl)) e2 (Ins.self Eb) (g := (mkF m 15 #[.val (.ref a), .val (.ref bb), .unset] [(.ref bb)])) rfl rfl (hb hby d15_15)
    refine go_of (B := (T3.setTop (mkF m 18 #[.val (.ref a), .val (.ref bb), .unset] [(.ref bb)]))) (st3) ?_
    refine go_of (B := (T3.setTop (mkF m 19 #[.val (.ref a), .val (.ref bb), .val (.ref bb)] []))) (fun _ kk => XS.astoreN X3.here hx rfl (hb hby d15_18) rfl rfl rfl kk) ?_
    obtain ⟨T4, X4, e4, st4⟩ := getS2 X3 hx hZ hown (host := "") (Or.inl (hw _ (List.mem_of_getElem? (i := 24) rfl))) Via.refl e3 (SC.ext O.2) (g := (mkF m 19 #[.val (.ref a), .val (.ref bb), .val (.ref bb)] [])) rfl (hb hby d15_19)
    refine go_of (B := (T4.setTop (mkF m 22 #[.val (.ref a), .val (.ref bb), .val (.ref bb)] [(.int gC)]))) (st4) ?_
    refine go_of (B := (T4.setTop (mkF m 25 #[.val (.ref a), .val (.ref bb), .val (.ref bb)] []))) (fun _ kk => XS.ifNo X4.here hx rfl (hb hby d15_22) rfl ((if0 _ _).trans (feq hgC).1) kk) ?_
    refine go_of (B := (T4.setTop (mkF m 26 #[.val (.ref a), .val (.ref bb), .val (.ref bb)] [(.ref a)]))) (fun _ kk => XS.aloadN X4.here hx rfl (hb hby d15_25) rfl rfl kk) ?_
    obtain ⟨T5, X5, e5, st5⟩ := getF X4 hx hZ hown (host := "") (Or.inl (hw _ (List.mem_of_getElem? (i := 36) rfl))) Via.refl e4 Fc (g := (mkF m 26 #[.val (.ref a), .val (.ref bb), .val (.ref bb)] [(.ref a)])) rfl rfl (hb hby d15_26)
    refine go_of (B := (T5.setTop (mkF m 29 #[.val (.ref a), .val (.ref bb), .val (.ref bb)] [(.int (0 : Int32))]))) (st5) ?_
    refine go_of (B := (T5.setTop (mkF m 30 #[.val (.ref a), .val (.ref bb), .val (.ref bb)] [(.ref bb), (.int (0 : Int32))]))) (fun _ kk => XS.aloadN X5.here hx rfl (hb hby d15_29) rfl rfl kk) ?_
    obtain ⟨T6, X6, e6, st6⟩ := getF X5 hx hZ hown (host := "") (Or.inl (hw _ (List.mem_of_getElem? (i := 36) rfl))) Via.refl e5 Fcb (g := (mkF m 30 #[.val (.ref a), .val (.ref bb), .val (.ref bb)] [(.ref bb), (.int (0 : Int32))])) rfl rfl (hb hby d15_30)
    refine go_of (B := (T6.setTop (mkF m 33 #[.val (.ref a), .val (.ref bb), .val (.ref bb)] [(.int (0 : Int32)), (.int (0 : Int32))]))) (st6) ?_
    refine go_of (B := (T6.setTop (mkF m 36 #[.val (.ref a), .val (.ref bb), .val (.ref bb)] []))) (fun _ kk => XS.icmpNo X6.here hx rfl (hb hby d15_33) rfl (teq (by decide : (0 : Int32) = (0 : Int32))).2 kk) ?_
    refine go_of (B := (T6.setTop (mkF m 37 #[.val (.ref a), .val (.ref bb), .val (.ref bb)] [(.ref a)]))) (fun _ kk => XS.aloadN X6.here hx rfl (hb hby d15_36) rfl rfl kk) ?_
    obtain ⟨T7, X7, e7, st7⟩ := getF X6 hx hZ hown (host := "") (Or.inl (hw _ (List.mem_of_getElem? (i := 38) rfl))) Via.refl e6 Fv (g := (mkF m 37 #[.val (.ref a), .val (.ref bb), .val (.ref bb)] [(.ref a)])) rfl rfl (hb hby d15_37)
    refine go_of (B := (T7.setTop (mkF m 40 #[.val (.ref a), .val (.ref bb), .val (.ref bb)] [(.ref t)]))) (st7) ?_
    refine go_of (B := (T7.setTop (mkF m 41 #[.val (.ref a), .val (.ref bb), .val (.ref bb)] [(.ref bb), (.ref t)]))) (fun _ kk => XS.aloadN X7.here hx rfl (hb hby d15_40) rfl rfl kk) ?_
    obtain ⟨T8, X8, e8, st8⟩ := getF X7 hx hZ hown (host := "") (Or.inl (hw _ (List.mem_of_getElem? (i := 38) rfl))) Via.refl e7 Fvb (g := (mkF m 41 #[.val (.ref a), .val (.ref bb), .val (.ref bb)] [(.ref bb), (.ref t)])) rfl rfl (hb hby d15_41)
    refine go_of (B := (T8.setTop (mkF m 44 #[.val (.ref a), .val (.ref bb), .val (.ref bb)] [(.ref tt), (.ref t)]))) (st8) ?_
    obtain ⟨_, _, ⟨T9, L9, k9, n9⟩, -, X9, ⟨Lc9, hQ9, l9, y9, z9⟩, st9⟩ := Jvm.LawKit.callS X8 hx (y := (⟨"java/lang/StringLatin1", "equals", "([B[B)Z"⟩ : MethodName)) hown (mvT hZ (hw _ (List.mem_of_getElem? (i := 99) rfl))) (mvT hZ (hw _ (List.mem_of_getElem? (i := 100) rfl))) (mvT hZ (hw _ (List.mem_of_getElem? (i := 101) rfl))) (mvT hZ (hw _ (List.mem_of_getElem? (i := 102) rfl))) (by decide) (backOf (W := 0) (str_lat_1_1 l Z a0 hw [] t tt (own_b8 c0) (own_b8 d0) k kk h0 n0 Z0 Va Vb) hZ (hw _ (List.mem_of_getElem? (i := 102) rfl)) (hw _ (List.mem_of_getElem? (i := 101) rfl)) (by decide) (by decide)) (g := (mkF m 44 #[.val (.ref a), .val (.ref bb), .val (.ref bb)] [(.ref tt), (.ref t)])) rfl (by rw [hml]; rfl) (argsL := [(.ref t), (.ref tt)]) (rest := []) (lenOf pd___B_B_Z rfl) rfl (by show 2 * 0 + _ ≤ _; exact Nat.le_of_eq rfl) (hb hby d15_44) (fun _ _ => ⟨rfl, e8, (by decide : 0 + 0 ≤ _), (by decide : 0 + 0 ≤ _)⟩)
    dsimp only [Pt.U, Pt.locs, Pt.cells, Pt.slots] at X9 l9 y9 z9 st9 hQ9
    subst l9 y9 z9
    obtain ⟨rfl, N9q, e9⟩ := hQ9
    have N9 := Fr.app N0 N9q
    refine go_of (B := (T9.setTop (mkF m 47 #[.val (.ref a), .val (.ref bb), .val (.ref bb)] [(.int (own_eqv [(own_b8 c0)] [(own_b8 d0)]))]))) (st9) ?_
    by_cases hc10 : (own_eqv [(own_b8 c0)] [(own_b8 d0)]) = (0 : Int32)
    · refine go_of (B := (T9.setTop (mkF m 54 #[.val (.ref a), .val (.ref bb), .val (.ref bb)] []))) (fun _ kk => XS.ifYes X9.here hx rfl (pc0 := 47) (pc' := 54) rfl (hb hby d15_47) rfl ((if0 _ _).trans (teq hc10).1) (by decide) (by decide) kk) ?_
      refine go_of (B := (T9.setTop (mkF m 55 #[.val (.ref a), .val (.ref bb), .val (.ref bb)] [(.int (0 : Int32))]))) (fun _ kk => XS.iconst X9.here hx rfl (hb hby d15_54) kk) ?_
      refine go_end X9 (v := some (.int (nar .boolean (0 : Int32)))) (fun h => by rw [Bd.returns] at h; cases h) Bd.notSynchronized (by decide) (by decide) (Q := (Q_str_eq_1_1 Z a bb c0 d0 gC h0 n0)) ?_ (fun fs hr => retN X9 hx (t := .boolean) Bd.returns (by simp) (hb hby d15_55) hr)
      show (fun (v : Option Value) (h : Heap) (L : List Loc) => v = some (.int (own_eqv [c0] [d0])) ∧ Fr n0 L ∧ h = h0) (some (.int (nar .boolean (0 : Int32)))) T9.heap _
      rw [e9]
      refine ⟨?_, N9, rfl⟩
      have hq := hc10
      rw [own_eqv0, show ([own_b8 c0] = [own_b8 d0]) = (List.map own_b8 [c0] = List.map own_b8 [d0]) from rfl, own_eqmap [c0] [d0] hcs hds] at hq
      unfold own_eqv; simp only [hq, not_false_eq_true, if_true, if_false, nar, ↓reduceIte]; first | rfl | simp_all [nar]
    · refine go_of (B := (T9.setTop (mkF m 50 #[.val (.ref a), .val (.ref bb), .val (.ref bb)] []))) (fun _ kk => XS.ifNo X9.here hx rfl (hb hby d15_47) rfl ((if0 _ _).trans (feq hc10).1) kk) ?_
      refine go_of (B := (T9.setTop (mkF m 51 #[.val (.ref a), .val (.ref bb), .val (.ref bb)] [(.int (1 : Int32))]))) (fun _ kk => XS.iconst X9.here hx rfl (hb hby d15_50) kk) ?_
      refine go_of (B := (T9.setTop (mkF m 55 #[.val (.ref a), .val (.ref bb), .val (.ref bb)] [(.int (1 : Int32))]))) (fun _ kk => XS.goto X9.here hx rfl (pc0 := 51) (pc' := 55) rfl (hb hby d15_51) (by decide) (by decide) kk) ?_
      refine go_end X9 (v := some (.int (nar .boolean (1 : Int32)))) (fun h => by rw [Bd.returns] at h; cases h) Bd.notSynchronized (by decide) (by decide) (Q := (Q_str_eq_1_1 Z a bb c0 d0 gC h0 n0)) ?_ (fun fs hr => retN X9 hx (t := .boolean) Bd.returns (by simp) (hb hby d15_55) hr)
      show (fun (v : Option Value) (h : Heap) (L : List Loc) => v = some (.int (own_eqv [c0] [d0])) ∧ Fr n0 L ∧ h = h0) (some (.int (nar .boolean (1 : Int32)))) T9.heap _
      rw [e9]
      refine ⟨?_, N9, rfl⟩
      have hq := hc10
      rw [own_eqv0, show ([own_b8 c0] = [own_b8 d0]) = (List.map own_b8 [c0] = List.map own_b8 [d0]) from rfl, own_eqmap [c0] [d0] hcs hds] at hq
      unfold own_eqv; simp only [hq, not_false_eq_true, if_true, if_false, nar, ↓reduceIte]; first | rfl | simp_all [nar]
def Q_str_eq_1_2 (Z : State) (a : Addr) (bb : Addr) (c0 : Int32) (d0 : Int32) (d1 : Int32) (gC : Int32) (h0 : Heap) (n0 : Nat) (v : Option Value) (h : Heap) (L : List Loc) : Prop := v = some (.int (own_eqv [c0] [d0, d1])) ∧ Fr n0 L ∧ h = h0
theorem ef_str_eq_1_2 (m : MethodId) (a : Addr) (bb : Addr)  : entryFrame m #[(.ref a), (.ref bb)] 3 = mkF m 0 #[.val (.ref a), .val (.ref bb), .unset] [] := by first | (simp [entryFrame, mkF, argsToLocals, Value.category]; done) | rfl
set_option maxRecDepth 65536 in
set_option maxHeartbeats 40000000 in
theorem str_eq_1_2 (l : Launch) (Z : State) (a0 : Array Value) (hw : ∀ d ∈ tables_1, d.before a0 Z = true) (ws : List Jvm.Cond) (a : Addr) (bb : Addr) (c0 : Int32) (d0 : Int32) (d1 : Int32) (gC : Int32) (h0 : Heap) (n0 : Nat) (Z0 : n0 ≤ h0.size) (O : Old Z n0 h0) (SC : Sta Z Z.heap "java/lang/String" "COMPACT_STRINGS" "Z" (.int gC)) (hgC : ¬ gC = (0 : Int32)) (S1 : Str Z h0 a 1 [c0]) (S2 : Str Z h0 bb 2 [d0, d1]) (hab : a = bb → [c0] = [d0, d1]) :
    MetFree l (⟨"java/lang/String", "equals", "(Ljava/lang/Object;)Z"⟩ : MethodName) (head1 (Jvm.Cond.code (⟨"java/lang/String", "equals", "(Ljava/lang/Object;)Z"⟩ : MethodName) jdk_42_method_66_code 3 (some .boolean) :: ws) ({ frames := 1, cells := 0, slots := 0, locals := 14 } : Room)) (fun aa' U1' => aa' = #[(.ref a), (.ref bb)] ∧ Z.Warmed39 U1'.vm ∧ U1'.heap = h0) (fun _ _ _ _ _ => True) (fun _ U1' oo' U2' => ∃ vv' LL', oo' = .returned vv' ∧ (Q_str_eq_1_2 Z a bb c0 d0 d1 gC h0 n0) vv' U2'.heap LL' ∧ FrameEnd U1' oo' U2' LL' ({ frames := 1, cells := 0, slots := 0, locals := 14 } : Room).cells ({ frames := 1, cells := 0, slots := 0, locals := 14 } : Room).slots) := by
  refine MetFree.of_bodySF (plainFor_of_name pn_java_lang_String) hisR ?_
  intro p e s m args below meth c s₁ Bd hml0 hP hK
  obtain ⟨rfl, hZ, hh⟩ := hP
  have hx := Bd.exec
  have hby := Bd.bytes
  have hml : c.maxLocals = 3 := hml0
  have hown : s.vm.findClass "java/lang/String" = some m.cls := findClass_of_methodNamed Bd.named
  have hnm := (name_of_methodNamed Bd.named Bd.method).1
  have X0 : Stand p l e ({ frames := 1, cells := 0, slots := 0, locals := 14 } : Room) s m #[(.ref a), (.ref bb)] below meth c s₁ [] 0 0 := Stand.of_body Bd
  have e0 : s₁.heap = h0 := by rw [← hh, Bd.state]; rfl
  have N0 := Fr.nil n0
  obtain ⟨t, k, Ea, Fc, Fv, Va, hcs, hat⟩ := S1
  obtain ⟨tt, kk, Eb, Fcb, Fvb, Vb, hds, hbt⟩ := S2
  refine go_of (A := s₁.setTop (entryFrame m #[(.ref a), (.ref bb)] 3)) (B := s₁.setTop (mkF m 0 #[.val (.ref a), .val (.ref bb), .unset] [])) (fun _ kk' => castTop (ef_str_eq_1_2 m a bb) kk') ?_
  refine go_of (B := (s₁.setTop (mkF m 1 #[.val (.ref a), .val (.ref bb), .unset] [(.ref a)]))) (fun _ kk => XS.aloadN X0.here hx rfl (hb hby d15_0) rfl rfl kk) ?_
  refine go_of (B := (s₁.setTop (mkF m 2 #[.val (.ref a), .val (.ref bb), .unset] [(.ref bb), (.ref a)]))) (fun _ kk => XS.aloadN X0.here hx rfl (hb hby d15_1) rfl rfl kk) ?_
  by_cases ha1 : a = bb
  · refine go_of (B := (s₁.setTop (mkF m 5 #[.val (.ref a), .val (.ref bb), .unset] []))) (fun _ kk => Jvm.RoadKit.acmp (g := (mkF m 2 #[.val (.ref a), .val (.ref bb), .unset] [(.ref bb), (.ref a)])) X0 hx rfl rfl rfl (pc0 := 2) (pc' := 5) (same := true) rfl (hb hby d15_2) rfl (decide_eq_true (congrArg Value.ref ha1)) (by decide) (by decide) kk) ?_
    refine go_of (B := (s₁.setTop (mkF m 6 #[.val (.ref a), .val (.ref bb), .unset] [(.int (1 : Int32))]))) (fun _ kk => XS.iconst X0.here hx rfl (hb hby d15_5) kk) ?_
    refine go_end X0 (v := some (.int (nar .boolean (1 : Int32)))) (fun h => by rw [Bd.returns] at h; cases h) Bd.notSynchronized (by decide) (by decide) (Q := (Q_str_eq_1_2 Z a bb c0 d0 d1 gC h0 n0)) ?_ (fun fs hr => retN X0 hx (t := .boolean) Bd.returns (by simp) (hb hby d15_6) hr)
    show (fun (v : Option Value) (h : Heap) (L : List Loc) => v = some (.int (own_eqv [c0] [d0, d1])) ∧ Fr n0 L ∧ h = h0) (some (.int (nar .boolean (1 : Int32)))) s₁.heap _
    rw [e0]
    refine ⟨?_, N0, rfl⟩
    simp [own_eqv, nar, hab ha1]
  · refine go_of (B := (s₁.setTop (mkF m 7 #[.val (.ref a), .val (.ref bb), .unset] []))) (fun _ kk => Jvm.RoadKit.acmp (g := (mkF m 2 #[.val (.ref a), .val (.ref bb), .unset] [(.ref bb), (.ref a)])) X0 hx rfl rfl rfl (pc0 := 2) (pc' := 7) (same := false) rfl (hb hby d15_2) rfl (decide_eq_false fun q => ha1 (Value.ref.inj q)) (by decide) (by decide) kk) ?_
    refine go_of (B := (s₁.setTop (mkF m 8 #[.val (.ref a), .val (.ref bb), .unset] [(.ref bb)]))) (fun _ kk => XS.aloadN X0.here hx rfl (hb hby d15_7) rfl rfl kk) ?_
    obtain ⟨T2, X2, e2, st2⟩ := instY X0 hx hZ hown (hw _ (List.mem_of_getElem? (i := 98) rfl)) e0 (Ins.self Eb) (g := (mkF m 8 #[.val (.ref a), .val (.ref bb), .unset] [(.ref bb)])) rfl rfl (hb hby d15_8)
    refine go_of (B := (T2.setTop (mkF m 11 #[.val (.ref a), .val (.ref bb), .unset] [(.int (1 : Int32))]))) (st2) ?_
    refine go_of (B := (T2.setTop (mkF m 14 #[.val (.ref a), .val (.ref bb), .unset] []))) (fun _ kk => XS.ifNo X2.here hx rfl (hb hby d15_11) rfl ((if0 _ _).trans (feq (by decide : ¬ ((1 : Int32) = (0 : Int32)))).1) kk) ?_
    refine go_of (B := (T2.setTop (mkF m 15 #[.val (.ref a), .val (.ref bb), .unset] [(.ref bb)]))) (fun _ kk => XS.aloadN X2.here hx rfl (hb hby d15_14) rfl rfl kk) ?_
    obtain ⟨T3, X3, e3, st3⟩ := castY X2 hx hZ hown (hw _ (List.mem_of_getElem? (i := 98) rfl)) e2 (Ins.self Eb) (g := (mkF m 15 #[.val (.ref a), .val (.ref bb), .unset] [(.ref bb)])) rfl rfl (hb hby d15_15)
    refine go_of (B := (T3.setTop (mkF m 18 #[.val (.ref a), .val (.ref bb), .unset] [(.ref bb)]))) (st3) ?_
    refine go_of (B := (T3.setTop (mkF m 19 #[.val (.ref a), .val (.ref bb), .val (.ref bb)] []))) (fun _ kk => XS.astoreN X3.here hx rfl (hb hby d15_18) rfl rfl rfl kk) ?_
    obtain ⟨T4, X4, e4, st4⟩ := getS2 X3 hx hZ hown (host := "") (Or.inl (hw _ (List.mem_of_getElem? (i := 24) rfl))) Via.refl e3 (SC.ext O.2) (g := (mkF m 19 #[.val (.ref a), .val (.ref bb), .val (.ref bb)] [])) rfl (hb hby d15_19)
    refine go_of (B := (T4.setTop (mkF m 22 #[.val (.ref a), .val (.ref bb), .val (.ref bb)] [(.int gC)]))) (st4) ?_
    refine go_of (B := (T4.setTop (mkF m 25 #[.val (.ref a), .val (.ref bb), .val (.ref bb)] []))) (fun _ kk => XS.ifNo X4.here hx rfl (hb hby d15_22) rfl ((if0 _ _).trans (feq hgC).1) kk) ?_
    refine go_of (B := (T4.setTop (mkF m 26 #[.val (.ref a), .val (.ref bb), .val (.ref bb)] [(.ref a)]))) (fun _ kk => XS.aloadN X4.here hx rfl (hb hby d15_25) rfl rfl kk) ?_
    obtain ⟨T5, X5, e5, st5⟩ := getF X4 hx hZ hown (host := "") (Or.inl (hw _ (List.mem_of_getElem? (i := 36) rfl))) Via.refl e4 Fc (g := (mkF m 26 #[.val (.ref a), .val (.ref bb), .val (.ref bb)] [(.ref a)])) rfl rfl (hb hby d15_26)
    refine go_of (B := (T5.setTop (mkF m 29 #[.val (.ref a), .val (.ref bb), .val (.ref bb)] [(.int (0 : Int32))]))) (st5) ?_
    refine go_of (B := (T5.setTop (mkF m 30 #[.val (.ref a), .val (.ref bb), .val (.ref bb)] [(.ref bb), (.int (0 : Int32))]))) (fun _ kk => XS.aloadN X5.here hx rfl (hb hby d15_29) rfl rfl kk) ?_
    obtain ⟨T6, X6, e6, st6⟩ := getF X5 hx hZ hown (host := "") (Or.inl (hw _ (List.mem_of_getElem? (i := 36) rfl))) Via.refl e5 Fcb (g := (mkF m 30 #[.val (.ref a), .val (.ref bb), .val (.ref bb)] [(.ref bb), (.int (0 : Int32))])) rfl rfl (hb hby d15_30)
    refine go_of (B := (T6.setTop (mkF m 33 #[.val (.ref a), .val (.ref bb), .val (.ref bb)] [(.int (0 : Int32)), (.int (0 : Int32))]))) (st6) ?_
    refine go_of (B := (T6.setTop (mkF m 36 #[.val (.ref a), .val (.ref bb), .val (.ref bb)] []))) (fun _ kk => XS.icmpNo X6.here hx rfl (hb hby d15_33) rfl (teq (by decide : (0 : Int32) = (0 : Int32))).2 kk) ?_
    refine go_of (B := (T6.setTop (mkF m 37 #[.val (.ref a), .val (.ref bb), .val (.ref bb)] [(.ref a)]))) (fun _ kk => XS.aloadN X6.here hx rfl (hb hby d15_36) rfl rfl kk) ?_
    obtain ⟨T7, X7, e7, st7⟩ := getF X6 hx hZ hown (host := "") (Or.inl (hw _ (List.mem_of_getElem? (i := 38) rfl))) Via.refl e6 Fv (g := (mkF m 37 #[.val (.ref a), .val (.ref bb), .val (.ref bb)] [(.ref a)])) rfl rfl (hb hby d15_37)
    refine go_of (B := (T7.setTop (mkF m 40 #[.val (.ref a), .val (.ref bb), .val (.ref bb)] [(.ref t)]))) (st7) ?_
    refine go_of (B := (T7.setTop (mkF m 41 #[.val (.ref a), .val (.ref bb), .val (.ref bb)] [(.ref bb), (.ref t)]))) (fun _ kk => XS.aloadN X7.here hx rfl (hb hby d15_40) rfl rfl kk) ?_
    obtain ⟨T8, X8, e8, st8⟩ := getF X7 hx hZ hown (host := "") (Or.inl (hw _ (List.mem_of_getElem? (i := 38) rfl))) Via.refl e7 Fvb (g := (mkF m 41 #[.val (.ref a), .val (.ref bb), .val (.ref bb)] [(.ref bb), (.ref t)])) rfl rfl (hb hby d15_41)
    refine go_of (B := (T8.setTop (mkF m 44 #[.val (.ref a), .val (.ref bb), .val (.ref bb)] [(.ref tt), (.ref t)]))) (st8) ?_
    obtain ⟨_, _, ⟨T9, L9, k9, n9⟩, -, X9, ⟨Lc9, hQ9, l9, y9, z9⟩, st9⟩ := Jvm.LawKit.callS X8 hx (y := (⟨"java/lang/StringLatin1", "equals", "([B[B)Z"⟩ : MethodName)) hown (mvT hZ (hw _ (List.mem_of_getElem? (i := 99) rfl))) (mvT hZ (hw _ (List.mem_of_getElem? (i := 100) rfl))) (mvT hZ (hw _ (List.mem_of_getElem? (i := 101) rfl))) (mvT hZ (hw _ (List.mem_of_getElem? (i := 102) rfl))) (by decide) (backOf (W := 0) (str_lat_1_2 l Z a0 hw [] t tt (own_b8 c0) (own_b8 d0) (own_b8 d1) k kk h0 n0 Z0 Va Vb) hZ (hw _ (List.mem_of_getElem? (i := 102) rfl)) (hw _ (List.mem_of_getElem? (i := 101) rfl)) (by decide) (by decide)) (g := (mkF m 44 #[.val (.ref a), .val (.ref bb), .val (.ref bb)] [(.ref tt), (.ref t)])) rfl (by rw [hml]; rfl) (argsL := [(.ref t), (.ref tt)]) (rest := []) (lenOf pd___B_B_Z rfl) rfl (by show 2 * 0 + _ ≤ _; exact Nat.le_of_eq rfl) (hb hby d15_44) (fun _ _ => ⟨rfl, e8, (by decide : 0 + 0 ≤ _), (by decide : 0 + 0 ≤ _)⟩)
    dsimp only [Pt.U, Pt.locs, Pt.cells, Pt.slots] at X9 l9 y9 z9 st9 hQ9
    subst l9 y9 z9
    obtain ⟨rfl, N9q, e9⟩ := hQ9
    have N9 := Fr.app N0 N9q
    refine go_of (B := (T9.setTop (mkF m 47 #[.val (.ref a), .val (.ref bb), .val (.ref bb)] [(.int (own_eqv [(own_b8 c0)] [(own_b8 d0), (own_b8 d1)]))]))) (st9) ?_
    by_cases hc10 : (own_eqv [(own_b8 c0)] [(own_b8 d0), (own_b8 d1)]) = (0 : Int32)
    · refine go_of (B := (T9.setTop (mkF m 54 #[.val (.ref a), .val (.ref bb), .val (.ref bb)] []))) (fun _ kk => XS.ifYes X9.here hx rfl (pc0 := 47) (pc' := 54) rfl (hb hby d15_47) rfl ((if0 _ _).trans (teq hc10).1) (by decide) (by decide) kk) ?_
      refine go_of (B := (T9.setTop (mkF m 55 #[.val (.ref a), .val (.ref bb), .val (.ref bb)] [(.int (0 : Int32))]))) (fun _ kk => XS.iconst X9.here hx rfl (hb hby d15_54) kk) ?_
      refine go_end X9 (v := some (.int (nar .boolean (0 : Int32)))) (fun h => by rw [Bd.returns] at h; cases h) Bd.notSynchronized (by decide) (by decide) (Q := (Q_str_eq_1_2 Z a bb c0 d0 d1 gC h0 n0)) ?_ (fun fs hr => retN X9 hx (t := .boolean) Bd.returns (by simp) (hb hby d15_55) hr)
      show (fun (v : Option Value) (h : Heap) (L : List Loc) => v = some (.int (own_eqv [c0] [d0, d1])) ∧ Fr n0 L ∧ h = h0) (some (.int (nar .boolean (0 : Int32)))) T9.heap _
      rw [e9]
      refine ⟨?_, N9, rfl⟩
      have hq := hc10
      rw [own_eqv0, show ([own_b8 c0] = [own_b8 d0, own_b8 d1]) = (List.map own_b8 [c0] = List.map own_b8 [d0, d1]) from rfl, own_eqmap [c0] [d0, d1] hcs hds] at hq
      unfold own_eqv; simp only [hq, not_false_eq_true, if_true, if_false, nar, ↓reduceIte]; first | rfl | simp_all [nar]
    · refine go_of (B := (T9.setTop (mkF m 50 #[.val (.ref a), .val (.ref bb), .val (.ref bb)] []))) (fun _ kk => XS.ifNo X9.here hx rfl (hb hby d15_47) rfl ((if0 _ _).trans (feq hc10).1) kk) ?_
      refine go_of (B := (T9.setTop (mkF m 51 #[.val (.ref a), .val (.ref bb), .val (.ref bb)] [(.int (1 : Int32))]))) (fun _ kk => XS.iconst X9.here hx rfl (hb hby d15_50) kk) ?_
      refine go_of (B := (T9.setTop (mkF m 55 #[.val (.ref a), .val (.ref bb), .val (.ref bb)] [(.int (1 : Int32))]))) (fun _ kk => XS.goto X9.here hx rfl (pc0 := 51) (pc' := 55) rfl (hb hby d15_51) (by decide) (by decide) kk) ?_
      refine go_end X9 (v := some (.int (nar .boolean (1 : Int32)))) (fun h => by rw [Bd.returns] at h; cases h) Bd.notSynchronized (by decide) (by decide) (Q := (Q_str_eq_1_2 Z a bb c0 d0 d1 gC h0 n0)) ?_ (fun fs hr => retN X9 hx (t := .boolean) Bd.returns (by simp) (hb hby d15_55) hr)
      show (fun (v : Option Value) (h : Heap) (L : List Loc) => v = some (.int (own_eqv [c0] [d0, d1])) ∧ Fr n0 L ∧ h = h0) (some (.int (nar .boolean (1 : Int32)))) T9.heap _
      rw [e9]
      refine ⟨?_, N9, rfl⟩
      have hq := hc10
      rw [own_eqv0, show ([own_b8 c0] = [own_b8 d0, own_b8 d1]) = (List.map own_b8 [c0] = List.map own_b8 [d0, d1]) from rfl, own_eqmap [c0] [d0, d1] hcs hds] at hq
      unfold own_eqv; simp only [hq, not_false_eq_true, if_true, if_false, nar, ↓reduceIte]; first | rfl | simp_all [nar]
def Q_str_eq_2_1 (Z : State) (a : Addr) (bb : Addr) (c0 : Int32) (c1 : Int32) (d0 : Int32) (gC : Int32) (h0 : Heap) (n0 : Nat) (v : Option Value) (h : Heap) (L : List Loc) : Prop := v = some (.int (own_eqv [c0, c1] [d0])) ∧ Fr n0 L ∧ h = h0
theorem ef_str_eq_2_1 (m : MethodId) (a : Addr) (bb : Addr)  : entryFrame m #[(.ref a), (.ref bb)] 3 = mkF m 0 #[.val (.ref a), .val (.ref bb), .unset] [] := by first | (simp [entryFrame, mkF, argsToLocals, Value.category]; done) | rfl
set_option maxRecDepth 65536 in
set_option maxHeartbeats 40000000 in
theorem str_eq_2_1 (l : Launch) (Z : State) (a0 : Array Value) (hw : ∀ d ∈ tables_1, d.before a0 Z = true) (ws : List Jvm.Cond) (a : Addr) (bb : Addr) (c0 : Int32) (c1 : Int32) (d0 : Int32) (gC : Int32) (h0 : Heap) (n0 : Nat) (Z0 : n0 ≤ h0.size) (O : Old Z n0 h0) (SC : Sta Z Z.heap "java/lang/String" "COMPACT_STRINGS" "Z" (.int gC)) (hgC : ¬ gC = (0 : Int32)) (S1 : Str Z h0 a 2 [c0, c1]) (S2 : Str Z h0 bb 1 [d0]) (hab : a = bb → [c0, c1] = [d0]) :
    MetFree l (⟨"java/lang/String", "equals", "(Ljava/lang/Object;)Z"⟩ : MethodName) (head1 (Jvm.Cond.code (⟨"java/lang/String", "equals", "(Ljava/lang/Object;)Z"⟩ : MethodName) jdk_42_method_66_code 3 (some .boolean) :: ws) ({ frames := 1, cells := 0, slots := 0, locals := 14 } : Room)) (fun aa' U1' => aa' = #[(.ref a), (.ref bb)] ∧ Z.Warmed39 U1'.vm ∧ U1'.heap = h0) (fun _ _ _ _ _ => True) (fun _ U1' oo' U2' => ∃ vv' LL', oo' = .returned vv' ∧ (Q_str_eq_2_1 Z a bb c0 c1 d0 gC h0 n0) vv' U2'.heap LL' ∧ FrameEnd U1' oo' U2' LL' ({ frames := 1, cells := 0, slots := 0, locals := 14 } : Room).cells ({ frames := 1, cells := 0, slots := 0, locals := 14 } : Room).slots) := by
  refine MetFree.of_bodySF (plainFor_of_name pn_java_lang_String) hisR ?_
  intro p e s m args below meth c s₁ Bd hml0 hP hK
  obtain ⟨rfl, hZ, hh⟩ := hP
  have hx := Bd.exec
  have hby := Bd.bytes
  have hml : c.maxLocals = 3 := hml0
  have hown : s.vm.findClass "java/lang/String" = some m.cls := findClass_of_methodNamed Bd.named
  have hnm := (name_of_methodNamed Bd.named Bd.method).1
  have X0 : Stand p l e ({ frames := 1, cells := 0, slots := 0, locals := 14 } : Room) s m #[(.ref a), (.ref bb)] below meth c s₁ [] 0 0 := Stand.of_body Bd
  have e0 : s₁.heap = h0 := by rw [← hh, Bd.state]; rfl
  have N0 := Fr.nil n0
  obtain ⟨t, k, Ea, Fc, Fv, Va, hcs, hat⟩ := S1
  obtain ⟨tt, kk, Eb, Fcb, Fvb, Vb, hds, hbt⟩ := S2
  refine go_of (A := s₁.setTop (entryFrame m #[(.ref a), (.ref bb)] 3)) (B := s₁.setTop (mkF m 0 #[.val (.ref a), .val (.ref bb), .unset] [])) (fun _ kk' => castTop (ef_str_eq_2_1 m a bb) kk') ?_
  refine go_of (B := (s₁.setTop (mkF m 1 #[.val (.ref a), .val (.ref bb), .unset] [(.ref a)]))) (fun _ kk => XS.aloadN X0.here hx rfl (hb hby d15_0) rfl rfl kk) ?_
  refine go_of (B := (s₁.setTop (mkF m 2 #[.val (.ref a), .val (.ref bb), .unset] [(.ref bb), (.ref a)]))) (fun _ kk => XS.aloadN X0.here hx rfl (hb hby d15_1) rfl rfl kk) ?_
  by_cases ha1 : a = bb
  · refine go_of (B := (s₁.setTop (mkF m 5 #[.val (.ref a), .val (.ref bb), .unset] []))) (fun _ kk => Jvm.RoadKit.acmp (g := (mkF m 2 #[.val (.ref a), .val (.ref bb), .unset] [(.ref bb), (.ref a)])) X0 hx rfl rfl rfl (pc0 := 2) (pc' := 5) (same := true) rfl (hb hby d15_2) rfl (decide_eq_true (congrArg Value.ref ha1)) (by decide) (by decide) kk) ?_
    refine go_of (B := (s₁.setTop (mkF m 6 #[.val (.ref a), .val (.ref bb), .unset] [(.int (1 : Int32))]))) (fun _ kk => XS.iconst X0.here hx rfl (hb hby d15_5) kk) ?_
    refine go_end X0 (v := some (.int (nar .boolean (1 : Int32)))) (fun h => by rw [Bd.returns] at h; cases h) Bd.notSynchronized (by decide) (by decide) (Q := (Q_str_eq_2_1 Z a bb c0 c1 d0 gC h0 n0)) ?_ (fun fs hr => retN X0 hx (t := .boolean) Bd.returns (by simp) (hb hby d15_6) hr)
    show (fun (v : Option Value) (h : Heap) (L : List Loc) => v = some (.int (own_eqv [c0, c1] [d0])) ∧ Fr n0 L ∧ h = h0) (some (.int (nar .boolean (1 : Int32)))) s₁.heap _
    rw [e0]
    refine ⟨?_, N0, rfl⟩
    simp [own_eqv, nar, hab ha1]
  · refine go_of (B := (s₁.setTop (mkF m 7 #[.val (.ref a), .val (.ref bb), .unset] []))) (fun _ kk => Jvm.RoadKit.acmp (g := (mkF m 2 #[.val (.ref a), .val (.ref bb), .unset] [(.ref bb), (.ref a)])) X0 hx rfl rfl rfl (pc0 := 2) (pc' := 7) (same := false) rfl (hb hby d15_2) rfl (decide_eq_false fun q => ha1 (Value.ref.inj q)) (by decide) (by decide) kk) ?_
    refine go_of (B := (s₁.setTop (mkF m 8 #[.val (.ref a), .val (.ref bb), .unset] [(.ref bb)]))) (fun _ kk => XS.aloadN X0.here hx rfl (hb hby d15_7) rfl rfl kk) ?_
    obtain ⟨T2, X2, e2, st2⟩ := instY X0 hx hZ hown (hw _ (List.mem_of_getElem? (i := 98) rfl)) e0 (Ins.self Eb) (g := (mkF m 8 #[.val (.ref a), .val (.ref bb), .unset] [(.ref bb)])) rfl rfl (hb hby d15_8)
    refine go_of (B := (T2.setTop (mkF m 11 #[.val (.ref a), .val (.ref bb), .unset] [(.int (1 : Int32))]))) (st2) ?_
    refine go_of (B := (T2.setTop (mkF m 14 #[.val (.ref a), .val (.ref bb), .unset] []))) (fun _ kk => XS.ifNo X2.here hx rfl (hb hby d15_11) rfl ((if0 _ _).trans (feq (by decide : ¬ ((1 : Int32) = (0 : Int32)))).1) kk) ?_
    refine go_of (B := (T2.setTop (mkF m 15 #[.val (.ref a), .val (.ref bb), .unset] [(.ref bb)]))) (fun _ kk => XS.aloadN X2.here hx rfl (hb hby d15_14) rfl rfl kk) ?_
    obtain ⟨T3, X3, e3, st3⟩ := castY X2 hx hZ hown (hw _ (List.mem_of_getElem? (i := 98) rfl)) e2 (Ins.self Eb) (g := (mkF m 15 #[.val (.ref a), .val (.ref bb), .unset] [(.ref bb)])) rfl rfl (hb hby d15_15)
    refine go_of (B := (T3.setTop (mkF m 18 #[.val (.ref a), .val (.ref bb), .unset] [(.ref bb)]))) (st3) ?_
    refine go_of (B := (T3.setTop (mkF m 19 #[.val (.ref a), .val (.ref bb), .val (.ref bb)] []))) (fun _ kk => XS.astoreN X3.here hx rfl (hb hby d15_18) rfl rfl rfl kk) ?_
    obtain ⟨T4, X4, e4, st4⟩ := getS2 X3 hx hZ hown (host := "") (Or.inl (hw _ (List.mem_of_getElem? (i := 24) rfl))) Via.refl e3 (SC.ext O.2) (g := (mkF m 19 #[.val (.ref a), .val (.ref bb), .val (.ref bb)] [])) rfl (hb hby d15_19)
    refine go_of (B := (T4.setTop (mkF m 22 #[.val (.ref a), .val (.ref bb), .val (.ref bb)] [(.int gC)]))) (st4) ?_
    refine go_of (B := (T4.setTop (mkF m 25 #[.val (.ref a), .val (.ref bb), .val (.ref bb)] []))) (fun _ kk => XS.ifNo X4.here hx rfl (hb hby d15_22) rfl ((if0 _ _).trans (feq hgC).1) kk) ?_
    refine go_of (B := (T4.setTop (mkF m 26 #[.val (.ref a), .val (.ref bb), .val (.ref bb)] [(.ref a)]))) (fun _ kk => XS.aloadN X4.here hx rfl (hb hby d15_25) rfl rfl kk) ?_
    obtain ⟨T5, X5, e5, st5⟩ := getF X4 hx hZ hown (host := "") (Or.inl (hw _ (List.mem_of_getElem? (i := 36) rfl))) Via.refl e4 Fc (g := (mkF m 26 #[.val (.ref a), .val (.ref bb), .val (.ref bb)] [(.ref a)])) rfl rfl (hb hby d15_26)
    refine go_of (B := (T5.setTop (mkF m 29 #[.val (.ref a), .val (.ref bb), .val (.ref bb)] [(.int (0 : Int32))]))) (st5) ?_
    refine go_of (B := (T5.setTop (mkF m 30 #[.val (.ref a), .val (.ref bb), .val (.ref bb)] [(.ref bb), (.int (0 : Int32))]))) (fun _ kk => XS.aloadN X5.here hx rfl (hb hby d15_29) rfl rfl kk) ?_
    obtain ⟨T6, X6, e6, st6⟩ := getF X5 hx hZ hown (host := "") (Or.inl (hw _ (List.mem_of_getElem? (i := 36) rfl))) Via.refl e5 Fcb (g := (mkF m 30 #[.val (.ref a), .val (.ref bb), .val (.ref bb)] [(.ref bb), (.int (0 : Int32))])) rfl rfl (hb hby d15_30)
    refine go_of (B := (T6.setTop (mkF m 33 #[.val (.ref a), .val (.ref bb), .val (.ref bb)] [(.int (0 : Int32)), (.int (0 : Int32))]))) (st6) ?_
    refine go_of (B := (T6.setTop (mkF m 36 #[.val (.ref a), .val (.ref bb), .val (.ref bb)] []))) (fun _ kk => XS.icmpNo X6.here hx rfl (hb hby d15_33) rfl (teq (by decide : (0 : Int32) = (0 : Int32))).2 kk) ?_
    refine go_of (B := (T6.setTop (mkF m 37 #[.val (.ref a), .val (.ref bb), .val (.ref bb)] [(.ref a)]))) (fun _ kk => XS.aloadN X6.here hx rfl (hb hby d15_36) rfl rfl kk) ?_
    obtain ⟨T7, X7, e7, st7⟩ := getF X6 hx hZ hown (host := "") (Or.inl (hw _ (List.mem_of_getElem? (i := 38) rfl))) Via.refl e6 Fv (g := (mkF m 37 #[.val (.ref a), .val (.ref bb), .val (.ref bb)] [(.ref a)])) rfl rfl (hb hby d15_37)
    refine go_of (B := (T7.setTop (mkF m 40 #[.val (.ref a), .val (.ref bb), .val (.ref bb)] [(.ref t)]))) (st7) ?_
    refine go_of (B := (T7.setTop (mkF m 41 #[.val (.ref a), .val (.ref bb), .val (.ref bb)] [(.ref bb), (.ref t)]))) (fun _ kk => XS.aloadN X7.here hx rfl (hb hby d15_40) rfl rfl kk) ?_
    obtain ⟨T8, X8, e8, st8⟩ := getF X7 hx hZ hown (host := "") (Or.inl (hw _ (List.mem_of_getElem? (i := 38) rfl))) Via.refl e7 Fvb (g := (mkF m 41 #[.val (.ref a), .val (.ref bb), .val (.ref bb)] [(.ref bb), (.ref t)])) rfl rfl (hb hby d15_41)
    refine go_of (B := (T8.setTop (mkF m 44 #[.val (.ref a), .val (.ref bb), .val (.ref bb)] [(.ref tt), (.ref t)]))) (st8) ?_
    obtain ⟨_, _, ⟨T9, L9, k9, n9⟩, -, X9, ⟨Lc9, hQ9, l9, y9, z9⟩, st9⟩ := Jvm.LawKit.callS X8 hx (y := (⟨"java/lang/StringLatin1", "equals", "([B[B)Z"⟩ : MethodName)) hown (mvT hZ (hw _ (List.mem_of_getElem? (i := 99) rfl))) (mvT hZ (hw _ (List.mem_of_getElem? (i := 100) rfl))) (mvT hZ (hw _ (List.mem_of_getElem? (i := 101) rfl))) (mvT hZ (hw _ (List.mem_of_getElem? (i := 102) rfl))) (by decide) (backOf (W := 0) (str_lat_2_1 l Z a0 hw [] t tt (own_b8 c0) (own_b8 c1) (own_b8 d0) k kk h0 n0 Z0 Va Vb) hZ (hw _ (List.mem_of_getElem? (i := 102) rfl)) (hw _ (List.mem_of_getElem? (i := 101) rfl)) (by decide) (by decide)) (g := (mkF m 44 #[.val (.ref a), .val (.ref bb), .val (.ref bb)] [(.ref tt), (.ref t)])) rfl (by rw [hml]; rfl) (argsL := [(.ref t), (.ref tt)]) (rest := []) (lenOf pd___B_B_Z rfl) rfl (by show 2 * 0 + _ ≤ _; exact Nat.le_of_eq rfl) (hb hby d15_44) (fun _ _ => ⟨rfl, e8, (by decide : 0 + 0 ≤ _), (by decide : 0 + 0 ≤ _)⟩)
    dsimp only [Pt.U, Pt.locs, Pt.cells, Pt.slots] at X9 l9 y9 z9 st9 hQ9
    subst l9 y9 z9
    obtain ⟨rfl, N9q, e9⟩ := hQ9
    have N9 := Fr.app N0 N9q
    refine go_of (B := (T9.setTop (mkF m 47 #[.val (.ref a), .val (.ref bb), .val (.ref bb)] [(.int (own_eqv [(own_b8 c0), (own_b8 c1)] [(own_b8 d0)]))]))) (st9) ?_
    by_cases hc10 : (own_eqv [(own_b8 c0), (own_b8 c1)] [(own_b8 d0)]) = (0 : Int32)
    · refine go_of (B := (T9.setTop (mkF m 54 #[.val (.ref a), .val (.ref bb), .val (.ref bb)] []))) (fun _ kk => XS.ifYes X9.here hx rfl (pc0 := 47) (pc' := 54) rfl (hb hby d15_47) rfl ((if0 _ _).trans (teq hc10).1) (by decide) (by decide) kk) ?_
      refine go_of (B := (T9.setTop (mkF m 55 #[.val (.ref a), .val (.ref bb), .val (.ref bb)] [(.int (0 : Int32))]))) (fun _ kk => XS.iconst X9.here hx rfl (hb hby d15_54) kk) ?_
      refine go_end X9 (v := some (.int (nar .boolean (0 : Int32)))) (fun h => by rw [Bd.returns] at h; cases h) Bd.notSynchronized (by decide) (by decide) (Q := (Q_str_eq_2_1 Z a bb c0 c1 d0 gC h0 n0)) ?_ (fun fs hr => retN X9 hx (t := .boolean) Bd.returns (by simp) (hb hby d15_55) hr)
      show (fun (v : Option Value) (h : Heap) (L : List Loc) => v = some (.int (own_eqv [c0, c1] [d0])) ∧ Fr n0 L ∧ h = h0) (some (.int (nar .boolean (0 : Int32)))) T9.heap _
      rw [e9]
      refine ⟨?_, N9, rfl⟩
      have hq := hc10
      rw [own_eqv0, show ([own_b8 c0, own_b8 c1] = [own_b8 d0]) = (List.map own_b8 [c0, c1] = List.map own_b8 [d0]) from rfl, own_eqmap [c0, c1] [d0] hcs hds] at hq
      unfold own_eqv; simp only [hq, not_false_eq_true, if_true, if_false, nar, ↓reduceIte]; first | rfl | simp_all [nar]
    · refine go_of (B := (T9.setTop (mkF m 50 #[.val (.ref a), .val (.ref bb), .val (.ref bb)] []))) (fun _ kk => XS.ifNo X9.here hx rfl (hb hby d15_47) rfl ((if0 _ _).trans (feq hc10).1) kk) ?_
      refine go_of (B := (T9.setTop (mkF m 51 #[.val (.ref a), .val (.ref bb), .val (.ref bb)] [(.int (1 : Int32))]))) (fun _ kk => XS.iconst X9.here hx rfl (hb hby d15_50) kk) ?_
      refine go_of (B := (T9.setTop (mkF m 55 #[.val (.ref a), .val (.ref bb), .val (.ref bb)] [(.int (1 : Int32))]))) (fun _ kk => XS.goto X9.here hx rfl (pc0 := 51) (pc' := 55) rfl (hb hby d15_51) (by decide) (by decide) kk) ?_
      refine go_end X9 (v := some (.int (nar .boolean (1 : Int32)))) (fun h => by rw [Bd.returns] at h; cases h) Bd.notSynchronized (by decide) (by decide) (Q := (Q_str_eq_2_1 Z a bb c0 c1 d0 gC h0 n0)) ?_ (fun fs hr => retN X9 hx (t := .boolean) Bd.returns (by simp) (hb hby d15_55) hr)
      show (fun (v : Option Value) (h : Heap) (L : List Loc) => v = some (.int (own_eqv [c0, c1] [d0])) ∧ Fr n0 L ∧ h = h0) (some (.int (nar .boolean (1 : Int32)))) T9.heap _
      rw [e9]
      refine ⟨?_, N9, rfl⟩
      have hq := hc10
      rw [own_eqv0, show ([own_b8 c0, own_b8 c1] = [own_b8 d0]) = (List.map own_b8 [c0, c1] = List.map own_b8 [d0]) from rfl, own_eqmap [c0, c1] [d0] hcs hds] at hq
      unfold own_eqv; simp only [hq, not_false_eq_true, if_true, if_false, nar, ↓reduceIte]; first | rfl | simp_all [nar]
def Q_str_eq_2_2 (Z : State) (a : Addr) (bb : Addr) (c0 : Int32) (c1 : Int32) (d0 : Int32) (d1 : Int32) (gC : Int32) (h0 : Heap) (n0 : Nat) (v : Option Value) (h : Heap) (L : List Loc) : Prop := v = some (.int (own_eqv [c0, c1] [d0, d1])) ∧ Fr n0 L ∧ h = h0
theorem ef_str_eq_2_2 (m : MethodId) (a : Addr) (bb : Addr)  : entryFrame m #[(.ref a), (.ref bb)] 3 = mkF m 0 #[.val (.ref a), .val (.ref bb), .unset] [] := by first | (simp [entryFrame, mkF, argsToLocals, Value.category]; done) | rfl
set_option maxRecDepth 65536 in
set_option maxHeartbeats 40000000 in
theorem str_eq_2_2 (l : Launch) (Z : State) (a0 : Array Value) (hw : ∀ d ∈ tables_1, d.before a0 Z = true) (ws : List Jvm.Cond) (a : Addr) (bb : Addr) (c0 : Int32) (c1 : Int32) (d0 : Int32) (d1 : Int32) (gC : Int32) (h0 : Heap) (n0 : Nat) (Z0 : n0 ≤ h0.size) (O : Old Z n0 h0) (SC : Sta Z Z.heap "java/lang/String" "COMPACT_STRINGS" "Z" (.int gC)) (hgC : ¬ gC = (0 : Int32)) (S1 : Str Z h0 a 2 [c0, c1]) (S2 : Str Z h0 bb 2 [d0, d1]) (hab : a = bb → [c0, c1] = [d0, d1]) :
    MetFree l (⟨"java/lang/String", "equals", "(Ljava/lang/Object;)Z"⟩ : MethodName) (head1 (Jvm.Cond.code (⟨"java/lang/String", "equals", "(Ljava/lang/Object;)Z"⟩ : MethodName) jdk_42_method_66_code 3 (some .boolean) :: ws) ({ frames := 1, cells := 0, slots := 0, locals := 14 } : Room)) (fun aa' U1' => aa' = #[(.ref a), (.ref bb)] ∧ Z.Warmed39 U1'.vm ∧ U1'.heap = h0) (fun _ _ _ _ _ => True) (fun _ U1' oo' U2' => ∃ vv' LL', oo' = .returned vv' ∧ (Q_str_eq_2_2 Z a bb c0 c1 d0 d1 gC h0 n0) vv' U2'.heap LL' ∧ FrameEnd U1' oo' U2' LL' ({ frames := 1, cells := 0, slots := 0, locals := 14 } : Room).cells ({ frames := 1, cells := 0, slots := 0, locals := 14 } : Room).slots) := by
  refine MetFree.of_bodySF (plainFor_of_name pn_java_lang_String) hisR ?_
  intro p e s m args below meth c s₁ Bd hml0 hP hK
  obtain ⟨rfl, hZ, hh⟩ := hP
  have hx := Bd.exec
  have hby := Bd.bytes
  have hml : c.maxLocals = 3 := hml0
  have hown : s.vm.findClass "java/lang/String" = some m.cls := findClass_of_methodNamed Bd.named
  have hnm := (name_of_methodNamed Bd.named Bd.method).1
  have X0 : Stand p l e ({ frames := 1, cells := 0, slots := 0, locals := 14 } : Room) s m #[(.ref a), (.ref bb)] below meth c s₁ [] 0 0 := Stand.of_body Bd
  have e0 : s₁.heap = h0 := by rw [← hh, Bd.state]; rfl
  have N0 := Fr.nil n0
  obtain ⟨t, k, Ea, Fc, Fv, Va, hcs, hat⟩ := S1
  obtain ⟨tt, kk, Eb, Fcb, Fvb, Vb, hds, hbt⟩ := S2
  refine go_of (A := s₁.setTop (entryFrame m #[(.ref a), (.ref bb)] 3)) (B := s₁.setTop (mkF m 0 #[.val (.ref a), .val (.ref bb), .unset] [])) (fun _ kk' => castTop (ef_str_eq_2_2 m a bb) kk') ?_
  refine go_of (B := (s₁.setTop (mkF m 1 #[.val (.ref a), .val (.ref bb), .unset] [(.ref a)]))) (fun _ kk => XS.aloadN X0.here hx rfl (hb hby d15_0) rfl rfl kk) ?_
  refine go_of (B := (s₁.setTop (mkF m 2 #[.val (.ref a), .val (.ref bb), .unset] [(.ref bb), (.ref a)]))) (fun _ kk => XS.aloadN X0.here hx rfl (hb hby d15_1) rfl rfl kk) ?_
  by_cases ha1 : a = bb
  · refine go_of (B := (s₁.setTop (mkF m 5 #[.val (.ref a), .val (.ref bb), .unset] []))) (fun _ kk => Jvm.RoadKit.acmp (g := (mkF m 2 #[.val (.ref a), .val (.ref bb), .unset] [(.ref bb), (.ref a)])) X0 hx rfl rfl rfl (pc0 := 2) (pc' := 5) (same := true) rfl (hb hby d15_2) rfl (decide_eq_true (congrArg Value.ref ha1)) (by decide) (by decide) kk) ?_
    refine go_of (B := (s₁.setTop (mkF m 6 #[.val (.ref a), .val (.ref bb), .unset] [(.int (1 : Int32))]))) (fun _ kk => XS.iconst X0.here hx rfl (hb hby d15_5) kk) ?_
    refine go_end X0 (v := some (.int (nar .boolean (1 : Int32)))) (fun h => by rw [Bd.returns] at h; cases h) Bd.notSynchronized (by decide) (by decide) (Q := (Q_str_eq_2_2 Z a bb c0 c1 d0 d1 gC h0 n0)) ?_ (fun fs hr => retN X0 hx (t := .boolean) Bd.returns (by simp) (hb hby d15_6) hr)
    show (fun (v : Option Value) (h : Heap) (L : List Loc) => v = some (.int (own_eqv [c0, c1] [d0, d1])) ∧ Fr n0 L ∧ h = h0) (some (.int (nar .boolean (1 : Int32)))) s₁.heap _
    rw [e0]
    refine ⟨?_, N0, rfl⟩
    simp [own_eqv, nar, hab ha1]
  · refine go_of (B := (s₁.setTop (mkF m 7 #[.val (.ref a), .val (.ref bb), .unset] []))) (fun _ kk => Jvm.RoadKit.acmp (g := (mkF m 2 #[.val (.ref a), .val (.ref bb), .unset] [(.ref bb), (.ref a)])) X0 hx rfl rfl rfl (pc0 := 2) (pc' := 7) (same := false) rfl (hb hby d15_2) rfl (decide_eq_false fun q => ha1 (Value.ref.inj q)) (by decide) (by decide) kk) ?_
    refine go_of (B := (s₁.setTop (mkF m 8 #[.val (.ref a), .val (.ref bb), .unset] [(.ref bb)]))) (fun _ kk => XS.aloadN X0.here hx rfl (hb hby d15_7) rfl rfl kk) ?_
    obtain ⟨T2, X2, e2, st2⟩ := instY X0 hx hZ hown (hw _ (List.mem_of_getElem? (i := 98) rfl)) e0 (Ins.self Eb) (g := (mkF m 8 #[.val (.ref a), .val (.ref bb), .unset] [(.ref bb)])) rfl rfl (hb hby d15_8)
    refine go_of (B := (T2.setTop (mkF m 11 #[.val (.ref a), .val (.ref bb), .unset] [(.int (1 : Int32))]))) (st2) ?_
    refine go_of (B := (T2.setTop (mkF m 14 #[.val (.ref a), .val (.ref bb), .unset] []))) (fun _ kk => XS.ifNo X2.here hx rfl (hb hby d15_11) rfl ((if0 _ _).trans (feq (by decide : ¬ ((1 : Int32) = (0 : Int32)))).1) kk) ?_
    refine go_of (B := (T2.setTop (mkF m 15 #[.val (.ref a), .val (.ref bb), .unset] [(.ref bb)]))) (fun _ kk => XS.aloadN X2.here hx rfl (hb hby d15_14) rfl rfl kk) ?_
    obtain ⟨T3, X3, e3, st3⟩ := castY X2 hx hZ hown (hw _ (List.mem_of_getElem? (i := 98) rfl)) e2 (Ins.self Eb) (g := (mkF m 15 #[.val (.ref a), .val (.ref bb), .unset] [(.ref bb)])) rfl rfl (hb hby d15_15)
    refine go_of (B := (T3.setTop (mkF m 18 #[.val (.ref a), .val (.ref bb), .unset] [(.ref bb)]))) (st3) ?_
    refine go_of (B := (T3.setTop (mkF m 19 #[.val (.ref a), .val (.ref bb), .val (.ref bb)] []))) (fun _ kk => XS.astoreN X3.here hx rfl (hb hby d15_18) rfl rfl rfl kk) ?_
    obtain ⟨T4, X4, e4, st4⟩ := getS2 X3 hx hZ hown (host := "") (Or.inl (hw _ (List.mem_of_getElem? (i := 24) rfl))) Via.refl e3 (SC.ext O.2) (g := (mkF m 19 #[.val (.ref a), .val (.ref bb), .val (.ref bb)] [])) rfl (hb hby d15_19)
    refine go_of (B := (T4.setTop (mkF m 22 #[.val (.ref a), .val (.ref bb), .val (.ref bb)] [(.int gC)]))) (st4) ?_
    refine go_of (B := (T4.setTop (mkF m 25 #[.val (.ref a), .val (.ref bb), .val (.ref bb)] []))) (fun _ kk => XS.ifNo X4.here hx rfl (hb hby d15_22) rfl ((if0 _ _).trans (feq hgC).1) kk) ?_
    refine go_of (B := (T4.setTop (mkF m 26 #[.val (.ref a), .val (.ref bb), .val (.ref bb)] [(.ref a)]))) (fun _ kk => XS.aloadN X4.here hx rfl (hb hby d15_25) rfl rfl kk) ?_
    obtain ⟨T5, X5, e5, st5⟩ := getF X4 hx hZ hown (host := "") (Or.inl (hw _ (List.mem_of_getElem? (i := 36) rfl))) Via.refl e4 Fc (g := (mkF m 26 #[.val (.ref a), .val (.ref bb), .val (.ref bb)] [(.ref a)])) rfl rfl (hb hby d15_26)
    refine go_of (B := (T5.setTop (mkF m 29 #[.val (.ref a), .val (.ref bb), .val (.ref bb)] [(.int (0 : Int32))]))) (st5) ?_
    refine go_of (B := (T5.setTop (mkF m 30 #[.val (.ref a), .val (.ref bb), .val (.ref bb)] [(.ref bb), (.int (0 : Int32))]))) (fun _ kk => XS.aloadN X5.here hx rfl (hb hby d15_29) rfl rfl kk) ?_
    obtain ⟨T6, X6, e6, st6⟩ := getF X5 hx hZ hown (host := "") (Or.inl (hw _ (List.mem_of_getElem? (i := 36) rfl))) Via.refl e5 Fcb (g := (mkF m 30 #[.val (.ref a), .val (.ref bb), .val (.ref bb)] [(.ref bb), (.int (0 : Int32))])) rfl rfl (hb hby d15_30)
    refine go_of (B := (T6.setTop (mkF m 33 #[.val (.ref a), .val (.ref bb), .val (.ref bb)] [(.int (0 : Int32)), (.int (0 : Int32))]))) (st6) ?_
    refine go_of (B := (T6.setTop (mkF m 36 #[.val (.ref a), .val (.ref bb), .val (.ref bb)] []))) (fun _ kk => XS.icmpNo X6.here hx rfl (hb hby d15_33) rfl (teq (by decide : (0 : Int32) = (0 : Int32))).2 kk) ?_
    refine go_of (B := (T6.setTop (mkF m 37 #[.val (.ref a), .val (.ref bb), .val (.ref bb)] [(.ref a)]))) (fun _ kk => XS.aloadN X6.here hx rfl (hb hby d15_36) rfl rfl kk) ?_
    obtain ⟨T7, X7, e7, st7⟩ := getF X6 hx hZ hown (host := "") (Or.inl (hw _ (List.mem_of_getElem? (i := 38) rfl))) Via.refl e6 Fv (g := (mkF m 37 #[.val (.ref a), .val (.ref bb), .val (.ref bb)] [(.ref a)])) rfl rfl (hb hby d15_37)
    refine go_of (B := (T7.setTop (mkF m 40 #[.val (.ref a), .val (.ref bb), .val (.ref bb)] [(.ref t)]))) (st7) ?_
    refine go_of (B := (T7.setTop (mkF m 41 #[.val (.ref a), .val (.ref bb), .val (.ref bb)] [(.ref bb), (.ref t)]))) (fun _ kk => XS.aloadN X7.here hx rfl (hb hby d15_40) rfl rfl kk) ?_
    obtain ⟨T8, X8, e8, st8⟩ := getF X7 hx hZ hown (host := "") (Or.inl (hw _ (List.mem_of_getElem? (i := 38) rfl))) Via.refl e7 Fvb (g := (mkF m 41 #[.val (.ref a), .val (.ref bb), .val (.ref bb)] [(.ref bb), (.ref t)])) rfl rfl (hb hby d15_41)
    refine go_of (B := (T8.setTop (mkF m 44 #[.val (.ref a), .val (.ref bb), .val (.ref bb)] [(.ref tt), (.ref t)]))) (st8) ?_
    obtain ⟨_, _, ⟨T9, L9, k9, n9⟩, -, X9, ⟨Lc9, hQ9, l9, y9, z9⟩, st9⟩ := Jvm.LawKit.callS X8 hx (y := (⟨"java/lang/StringLatin1", "equals", "([B[B)Z"⟩ : MethodName)) hown (mvT hZ (hw _ (List.mem_of_getElem? (i := 99) rfl))) (mvT hZ (hw _ (List.mem_of_getElem? (i := 100) rfl))) (mvT hZ (hw _ (List.mem_of_getElem? (i := 101) rfl))) (mvT hZ (hw _ (List.mem_of_getElem? (i := 102) rfl))) (by decide) (backOf (W := 0) (str_lat_2_2 l Z a0 hw [] t tt (own_b8 c0) (own_b8 c1) (own_b8 d0) (own_b8 d1) k kk h0 n0 Z0 Va Vb) hZ (hw _ (List.mem_of_getElem? (i := 102) rfl)) (hw _ (List.mem_of_getElem? (i := 101) rfl)) (by decide) (by decide)) (g := (mkF m 44 #[.val (.ref a), .val (.ref bb), .val (.ref bb)] [(.ref tt), (.ref t)])) rfl (by rw [hml]; rfl) (argsL := [(.ref t), (.ref tt)]) (rest := []) (lenOf pd___B_B_Z rfl) rfl (by show 2 * 0 + _ ≤ _; exact Nat.le_of_eq rfl) (hb hby d15_44) (fun _ _ => ⟨rfl, e8, (by decide : 0 + 0 ≤ _), (by decide : 0 + 0 ≤ _)⟩)
    dsimp only [Pt.U, Pt.locs, Pt.cells, Pt.slots] at X9 l9 y9 z9 st9 hQ9
    subst l9 y9 z9
    obtain ⟨rfl, N9q, e9⟩ := hQ9
    have N9 := Fr.app N0 N9q
    refine go_of (B := (T9.setTop (mkF m 47 #[.val (.ref a), .val (.ref bb), .val (.ref bb)] [(.int (own_eqv [(own_b8 c0), (own_b8 c1)] [(own_b8 d0), (own_b8 d1)]))]))) (st9) ?_
    by_cases hc10 : (own_eqv [(own_b8 c0), (own_b8 c1)] [(own_b8 d0), (own_b8 d1)]) = (0 : Int32)
    · refine go_of (B := (T9.setTop (mkF m 54 #[.val (.ref a), .val (.ref bb), .val (.ref bb)] []))) (fun _ kk => XS.ifYes X9.here hx rfl (pc0 := 47) (pc' := 54) rfl (hb hby d15_47) rfl ((if0 _ _).trans (teq hc10).1) (by decide) (by decide) kk) ?_
      refine go_of (B := (T9.setTop (mkF m 55 #[.val (.ref a), .val (.ref bb), .val (.ref bb)] [(.int (0 : Int32))]))) (fun _ kk => XS.iconst X9.here hx rfl (hb hby d15_54) kk) ?_
      refine go_end X9 (v := some (.int (nar .boolean (0 : Int32)))) (fun h => by rw [Bd.returns] at h; cases h) Bd.notSynchronized (by decide) (by decide) (Q := (Q_str_eq_2_2 Z a bb c0 c1 d0 d1 gC h0 n0)) ?_ (fun fs hr => retN X9 hx (t := .boolean) Bd.returns (by simp) (hb hby d15_55) hr)
      show (fun (v : Option Value) (h : Heap) (L : List Loc) => v = some (.int (own_eqv [c0, c1] [d0, d1])) ∧ Fr n0 L ∧ h = h0) (some (.int (nar .boolean (0 : Int32)))) T9.heap _
      rw [e9]
      refine ⟨?_, N9, rfl⟩
      have hq := hc10
      rw [own_eqv0, show ([own_b8 c0, own_b8 c1] = [own_b8 d0, own_b8 d1]) = (List.map own_b8 [c0, c1] = List.map own_b8 [d0, d1]) from rfl, own_eqmap [c0, c1] [d0, d1] hcs hds] at hq
      unfold own_eqv; simp only [hq, not_false_eq_true, if_true, if_false, nar, ↓reduceIte]; first | rfl | simp_all [nar]
    · refine go_of (B := (T9.setTop (mkF m 50 #[.val (.ref a), .val (.ref bb), .val (.ref bb)] []))) (fun _ kk => XS.ifNo X9.here hx rfl (hb hby d15_47) rfl ((if0 _ _).trans (feq hc10).1) kk) ?_
      refine go_of (B := (T9.setTop (mkF m 51 #[.val (.ref a), .val (.ref bb), .val (.ref bb)] [(.int (1 : Int32))]))) (fun _ kk => XS.iconst X9.here hx rfl (hb hby d15_50) kk) ?_
      refine go_of (B := (T9.setTop (mkF m 55 #[.val (.ref a), .val (.ref bb), .val (.ref bb)] [(.int (1 : Int32))]))) (fun _ kk => XS.goto X9.here hx rfl (pc0 := 51) (pc' := 55) rfl (hb hby d15_51) (by decide) (by decide) kk) ?_
      refine go_end X9 (v := some (.int (nar .boolean (1 : Int32)))) (fun h => by rw [Bd.returns] at h; cases h) Bd.notSynchronized (by decide) (by decide) (Q := (Q_str_eq_2_2 Z a bb c0 c1 d0 d1 gC h0 n0)) ?_ (fun fs hr => retN X9 hx (t := .boolean) Bd.returns (by simp) (hb hby d15_55) hr)
      show (fun (v : Option Value) (h : Heap) (L : List Loc) => v = some (.int (own_eqv [c0, c1] [d0, d1])) ∧ Fr n0 L ∧ h = h0) (some (.int (nar .boolean (1 : Int32)))) T9.heap _
      rw [e9]
      refine ⟨?_, N9, rfl⟩
      have hq := hc10
      rw [own_eqv0, show ([own_b8 c0, own_b8 c1] = [own_b8 d0, own_b8 d1]) = (List.map own_b8 [c0, c1] = List.map own_b8 [d0, d1]) from rfl, own_eqmap [c0, c1] [d0, d1] hcs hds] at hq
      unfold own_eqv; simp only [hq, not_false_eq_true, if_true, if_false, nar, ↓reduceIte]; first | rfl | simp_all [nar]
def Q_str_eq (Z : State) (a bb : Addr) (cs ds : List Int32) (gC : Int32) (h0 : Heap) (n0 : Nat) (v : Option Value) (h : Heap) (L : List Loc) : Prop := v = some (.int (own_eqv cs ds)) ∧ Fr n0 L ∧ h = h0
theorem str_eq (l : Launch) (Z : State) (a0 : Array Value) (hw : ∀ d ∈ tables_1, d.before a0 Z = true) (ws : List Jvm.Cond) (a bb : Addr) (cs ds : List Int32) (gC : Int32) (h0 : Heap) (n0 : Nat) (Z0 : n0 ≤ h0.size) (O : Old Z n0 h0) (SC : Sta Z Z.heap "java/lang/String" "COMPACT_STRINGS" "Z" (.int gC)) (hgC : ¬ gC = (0 : Int32)) (S1 : StrL Z h0 a cs) (S2 : StrL Z h0 bb ds) (hab : a = bb → cs = ds) :
    MetFree l (⟨"java/lang/String", "equals", "(Ljava/lang/Object;)Z"⟩ : MethodName) (head1 (Jvm.Cond.code (⟨"java/lang/String", "equals", "(Ljava/lang/Object;)Z"⟩ : MethodName) jdk_42_method_66_code 3 (some .boolean) :: ws) ({ frames := 1, cells := 0, slots := 0, locals := 14 } : Room)) (fun aa' U1' => aa' = #[(.ref a), (.ref bb)] ∧ Z.Warmed39 U1'.vm ∧ U1'.heap = h0) (fun _ _ _ _ _ => True) (fun _ U1' oo' U2' => ∃ vv' LL', oo' = .returned vv' ∧ (Q_str_eq Z a bb cs ds gC h0 n0) vv' U2'.heap LL' ∧ FrameEnd U1' oo' U2' LL' ({ frames := 1, cells := 0, slots := 0, locals := 14 } : Room).cells ({ frames := 1, cells := 0, slots := 0, locals := 14 } : Room).slots) := by
  match cs, ds, S1, S2, hab with
  | [], _, S1, _, _ => exact S1.elim
  | [c0], [], _, S2, _ => exact S2.elim
  | [c0], [d0], S1, S2, hab => exact str_eq_1_1 l Z a0 hw ws a bb c0 d0 gC h0 n0 Z0 O SC hgC S1 S2 hab
  | [c0], [d0, d1], S1, S2, hab => exact str_eq_1_2 l Z a0 hw ws a bb c0 d0 d1 gC h0 n0 Z0 O SC hgC S1 S2 hab
  | [c0], _ :: _ :: _ :: _, _, S2, _ => exact S2.elim
  | [c0, c1], [], _, S2, _ => exact S2.elim
  | [c0, c1], [d0], S1, S2, hab => exact str_eq_2_1 l Z a0 hw ws a bb c0 c1 d0 gC h0 n0 Z0 O SC hgC S1 S2 hab
  | [c0, c1], [d0, d1], S1, S2, hab => exact str_eq_2_2 l Z a0 hw ws a bb c0 c1 d0 d1 gC h0 n0 Z0 O SC hgC S1 S2 hab
  | [c0, c1], _ :: _ :: _ :: _, _, S2, _ => exact S2.elim
  | _ :: _ :: _ :: _, _, S1, _, _ => exact S1.elim

abbrev own_ch (va : Int32) : Int32 := (va &&& (255 : Int32)).toUInt32.toUInt16.toUInt32.toInt32
abbrev own_ch8 (va : Int32) : Int32 := own_ch ((va.toUInt32 >>> ((8 : Int32) &&& 31).toUInt32).toInt32)
abbrev own_ch18 (va : Int32) : Int32 := own_ch ((va.toUInt32 >>> ((18 : Int32) &&& 31).toUInt32).toInt32)
theorem own_chv (va : Int32) : own_ch va = va &&& (255 : Int32) := by
  have h : (va &&& (255 : Int32)).toInt = va.toInt % 256 := c_mask va 255 8 (by decide) (by decide)
  have h5 := c_i2c (va &&& (255 : Int32))
  apply Int32.toInt_inj.mp
  show (va &&& (255 : Int32)).toUInt32.toUInt16.toUInt32.toInt32.toInt = _
  omega
theorem own_chr (va : Int32) : ¬ own_ch va < 0 ∧ ¬ (255 : Int32) < own_ch va := by
  have h : (va &&& (255 : Int32)).toInt = va.toInt % 256 := c_mask va 255 8 (by decide) (by decide)
  rw [own_chv, Int32.lt_iff_toInt_lt, Int32.lt_iff_toInt_lt]
  have e1 : (255 : Int32).toInt = 255 := rfl; have e0 : (0 : Int32).toInt = 0 := rfl
  omega
def own_th (va : Int32) : List Int32 := if (((va.toUInt32 >>> ((16 : Int32) &&& 31).toUInt32).toInt32) &&& (1 : Int32)) = (0 : Int32) then (if (((va.toUInt32 >>> ((17 : Int32) &&& 31).toUInt32).toInt32) &&& (1 : Int32)) = (0 : Int32) then [own_ch8 va] else [own_ch8 va, own_ch18 va]) else [own_ch va]
def own_exp (va : Int32) : Int32 := if (((va.toUInt32 >>> ((16 : Int32) &&& 31).toUInt32).toInt32) &&& (1 : Int32)) = (0 : Int32) then (if (((va.toUInt32 >>> ((17 : Int32) &&& 31).toUInt32).toInt32) &&& (1 : Int32)) = (0 : Int32) then (if (va &&& (255 : Int32)) = (((va.toUInt32 >>> ((8 : Int32) &&& 31).toUInt32).toInt32) &&& (255 : Int32)) then 1 else 0) else 0) else 1
theorem own_expth (va : Int32) : [own_ch va] = own_th va ↔ ¬ own_exp va = 0 := by
  unfold own_th own_exp
  by_cases h1 : (((va.toUInt32 >>> ((16 : Int32) &&& 31).toUInt32).toInt32) &&& (1 : Int32)) = (0 : Int32) <;> by_cases h2 : (((va.toUInt32 >>> ((17 : Int32) &&& 31).toUInt32).toInt32) &&& (1 : Int32)) = (0 : Int32) <;> simp only [h1, h2, if_true, if_false, ↓reduceIte]
  · simp only [own_ch8, own_chv, List.cons.injEq, and_true]
    split <;> simp_all
  · simp
  · simp
  · simp
def own_eq3 (c1 d1 c2 d2 c3 d3 : List Int32) : Int32 := if c1 = d1 then (if c2 = d2 then (if c3 = d3 then 1 else 0) else 0) else 0
theorem own_fin (p f s : Int32) : own_eq3 [own_ch p] (own_th p) [own_ch f] (own_th f) [own_ch s] (own_th s) = if own_exp p = 0 then 0 else if own_exp f = 0 then 0 else if own_exp s = 0 then 0 else 1 := by
  unfold own_eq3; simp only [own_expth]; by_cases h1 : own_exp p = 0 <;> by_cases h2 : own_exp f = 0 <;> by_cases h3 : own_exp s = 0 <;> simp [h1, h2, h3]
theorem own_fin' (p f s : Int32) : own_eq3 (own_th p) [own_ch p] (own_th f) [own_ch f] (own_th s) [own_ch s] = if own_exp p = 0 then 0 else if own_exp f = 0 then 0 else if own_exp s = 0 then 0 else 1 := by
  rw [← own_fin]; unfold own_eq3; simp only [eq_comm (a := own_th _)]
theorem d7_0 : decode jdk_52_method_21_code 0 = .ok (.iconst 0, 1) := by decide +kernel
theorem d7_1 : decode jdk_52_method_21_code 1 = .ok (.istore 5, 2) := by decide +kernel
theorem d7_3 : decode jdk_52_method_21_code 3 = .ok (.iload 5, 2) := by decide +kernel
theorem d7_5 : decode jdk_52_method_21_code 5 = .ok (.iload 4, 2) := by decide +kernel
theorem d7_7 : decode jdk_52_method_21_code 7 = .ok (.if_icmp .ge 37, 3) := by decide +kernel
theorem d7_10 : decode jdk_52_method_21_code 10 = .ok (.aload_n 0, 1) := by decide +kernel
theorem d7_11 : decode jdk_52_method_21_code 11 = .ok (.iload_n 1, 1) := by decide +kernel
theorem d7_12 : decode jdk_52_method_21_code 12 = .ok (.caload, 1) := by decide +kernel
theorem d7_13 : decode jdk_52_method_21_code 13 = .ok (.istore 6, 2) := by decide +kernel
theorem d7_15 : decode jdk_52_method_21_code 15 = .ok (.iload 6, 2) := by decide +kernel
theorem d7_17 : decode jdk_52_method_21_code 17 = .ok (.sipush 255, 3) := by decide +kernel
theorem d7_20 : decode jdk_52_method_21_code 20 = .ok (.if_icmp .le 6, 3) := by decide +kernel
theorem d7_26 : decode jdk_52_method_21_code 26 = .ok (.aload_n 2, 1) := by decide +kernel
theorem d7_27 : decode jdk_52_method_21_code 27 = .ok (.iload_n 3, 1) := by decide +kernel
theorem d7_28 : decode jdk_52_method_21_code 28 = .ok (.iload 6, 2) := by decide +kernel
theorem d7_30 : decode jdk_52_method_21_code 30 = .ok (.i2b, 1) := by decide +kernel
theorem d7_31 : decode jdk_52_method_21_code 31 = .ok (.bastore, 1) := by decide +kernel
theorem d7_32 : decode jdk_52_method_21_code 32 = .ok (.iinc 1 1, 3) := by decide +kernel
theorem d7_35 : decode jdk_52_method_21_code 35 = .ok (.iinc 3 1, 3) := by decide +kernel
theorem d7_38 : decode jdk_52_method_21_code 38 = .ok (.iinc 5 1, 3) := by decide +kernel
theorem d7_41 : decode jdk_52_method_21_code 41 = .ok (.goto (-38), 3) := by decide +kernel
theorem d7_44 : decode jdk_52_method_21_code 44 = .ok (.iload 4, 2) := by decide +kernel
theorem d7_46 : decode jdk_52_method_21_code 46 = .ok (.ireturn, 1) := by decide +kernel
def Q_str_c5_1 (Z : State) (s' : Addr) (d : Addr) (c0 : Int32) (ks : ClassId) (kd : ClassId) (h0 : Heap) (n0 : Nat) (v : Option Value) (h : Heap) (L : List Loc) : Prop := v = some (.int 1) ∧ Fr n0 L ∧ Keep h0 h [d] ∧ Arv Z h d kd .byte 1 [(.int (own_b8 c0))] (.int 0)
theorem pn_java_lang_StringUTF16 : plainName "java/lang/StringUTF16" = true := by first | (simp [plainName, overriddenIn]; done) | decide +kernel
theorem ef_str_c5_1 (m : MethodId) (s' : Addr) (d : Addr)  : entryFrame m #[(.ref s'), (.int (0 : Int32)), (.ref d), (.int (0 : Int32)), (.int (1 : Int32))] 7 = mkF m 0 #[.val (.ref s'), .val (.int (0 : Int32)), .val (.ref d), .val (.int (0 : Int32)), .val (.int (1 : Int32)), .unset, .unset] [] := by first | (simp [entryFrame, mkF, argsToLocals, Value.category]; done) | rfl
set_option maxRecDepth 65536 in
set_option maxHeartbeats 40000000 in
theorem str_c5_1 (l : Launch) (Z : State) (a0 : Array Value) (hw : ∀ d ∈ tables_1, d.before a0 Z = true) (ws : List Jvm.Cond) (s' : Addr) (d : Addr) (c0 : Int32) (ks : ClassId) (kd : ClassId) (h0 : Heap) (n0 : Nat) (Z0 : n0 ≤ h0.size) (Vs : Arv Z h0 s' ks .char 1 [(.int c0)] (.int 0)) (Vd : Arv Z h0 d kd .byte 1 [(.int 0)] (.int 0)) (nsd : s' ≠ d) (g : n0 ≤ d) (hc0 : ¬ c0 < 0 ∧ ¬ (255 : Int32) < c0) :
    MetFree l (⟨"java/lang/StringUTF16", "compress", "([CI[BII)I"⟩ : MethodName) (head1 (Jvm.Cond.code (⟨"java/lang/StringUTF16", "compress", "([CI[BII)I"⟩ : MethodName) jdk_52_method_21_code 7 (some .int) :: ws) ({ frames := 0, cells := 0, slots := 0, locals := 0 } : Room)) (fun aa' U1' => aa' = #[(.ref s'), (.int (0 : Int32)), (.ref d), (.int (0 : Int32)), (.int (1 : Int32))] ∧ Z.Warmed39 U1'.vm ∧ U1'.heap = h0) (fun _ _ _ _ _ => True) (fun _ U1' oo' U2' => ∃ vv' LL', oo' = .returned vv' ∧ (Q_str_c5_1 Z s' d c0 ks kd h0 n0) vv' U2'.heap LL' ∧ FrameEnd U1' oo' U2' LL' ({ frames := 0, cells := 0, slots := 0, locals := 0 } : Room).cells ({ frames := 0, cells := 0, slots := 0, locals := 0 } : Room).slots) := by
  refine MetFree.of_bodySF (plainFor_of_name pn_java_lang_StringUTF16) hisR ?_
  intro p e s m args below meth c s₁ Bd hml0 hP hK
  obtain ⟨rfl, hZ, hh⟩ := hP
  have hx := Bd.exec
  have hby := Bd.bytes
  have hml : c.maxLocals = 7 := hml0
  have hown : s.vm.findClass "java/lang/StringUTF16" = some m.cls := findClass_of_methodNamed Bd.named
  have hnm := (name_of_methodNamed Bd.named Bd.method).1
  have X0 : Stand p l e ({ frames := 0, cells := 0, slots := 0, locals := 0 } : Room) s m #[(.ref s'), (.int (0 : Int32)), (.ref d), (.int (0 : Int32)), (.int (1 : Int32))] below meth c s₁ [] 0 0 := Stand.of_body Bd
  have e0 : s₁.heap = h0 := by rw [← hh, Bd.state]; rfl
  have N0 := Fr.nil n0
  have lts := own_nlt (Vs.lt)
  have ltd := own_nlt (Vd.lt)
  refine go_of (A := s₁.setTop (entryFrame m #[(.ref s'), (.int (0 : Int32)), (.ref d), (.int (0 : Int32)), (.int (1 : Int32))] 7)) (B := s₁.setTop (mkF m 0 #[.val (.ref s'), .val (.int (0 : Int32)), .val (.ref d), .val (.int (0 : Int32)), .val (.int (1 : Int32)), .unset, .unset] [])) (fun _ kk' => castTop (ef_str_c5_1 m s' d) kk') ?_
  refine go_of (B := (s₁.setTop (mkF m 1 #[.val (.ref s'), .val (.int (0 : Int32)), .val (.ref d), .val (.int (0 : Int32)), .val (.int (1 : Int32)), .unset, .unset] [(.int (0 : Int32))]))) (fun _ kk => XS.iconst X0.here hx rfl (hb hby d7_0) kk) ?_
  refine go_of (B := (s₁.setTop (mkF m 3 #[.val (.ref s'), .val (.int (0 : Int32)), .val (.ref d), .val (.int (0 : Int32)), .val (.int (1 : Int32)), .val (.int (0 : Int32)), .unset] []))) (fun _ kk => XS.istore X0.here hx rfl (hb hby d7_1) rfl rfl kk) ?_
  refine go_of (B := (s₁.setTop (mkF m 5 #[.val (.ref s'), .val (.int (0 : Int32)), .val (.ref d), .val (.int (0 : Int32)), .val (.int (1 : Int32)), .val (.int (0 : Int32)), .unset] [(.int (0 : Int32))]))) (fun _ kk => XS.iload X0.here hx rfl (hb hby d7_3) rfl kk) ?_
  refine go_of (B := (s₁.setTop (mkF m 7 #[.val (.ref s'), .val (.int (0 : Int32)), .val (.ref d), .val (.int (0 : Int32)), .val (.int (1 : Int32)), .val (.int (0 : Int32)), .unset] [(.int (1 : Int32)), (.int (0 : Int32))]))) (fun _ kk => XS.iload X0.here hx rfl (hb hby d7_5) rfl kk) ?_
  refine go_of (B := (s₁.setTop (mkF m 10 #[.val (.ref s'), .val (.int (0 : Int32)), .val (.ref d), .val (.int (0 : Int32)), .val (.int (1 : Int32)), .val (.int (0 : Int32)), .unset] []))) (fun _ kk => XS.icmpNo X0.here hx rfl (hb hby d7_7) rfl (tlt (by decide : (0 : Int32) < (1 : Int32))).2.1 kk) ?_
  refine go_of (B := (s₁.setTop (mkF m 11 #[.val (.ref s'), .val (.int (0 : Int32)), .val (.ref d), .val (.int (0 : Int32)), .val (.int (1 : Int32)), .val (.int (0 : Int32)), .unset] [(.ref s')]))) (fun _ kk => XS.aloadN X0.here hx rfl (hb hby d7_10) rfl rfl kk) ?_
  refine go_of (B := (s₁.setTop (mkF m 12 #[.val (.ref s'), .val (.int (0 : Int32)), .val (.ref d), .val (.int (0 : Int32)), .val (.int (1 : Int32)), .val (.int (0 : Int32)), .unset] [(.int (0 : Int32)), (.ref s')]))) (fun _ kk => XS.iloadN X0.here hx rfl (hb hby d7_11) rfl kk) ?_
  obtain ⟨cl1, Ar1, q1, Sz1, Nn1, Hh1, G1⟩ := id (Vs)
  refine go_of (B := (s₁.setTop (mkF m 13 #[.val (.ref s'), .val (.int (0 : Int32)), .val (.ref d), .val (.int (0 : Int32)), .val (.int (1 : Int32)), .val (.int (0 : Int32)), .unset] [(.int c0)]))) (fun _ kk => X0.caload hx (j := (0 : Int32)) (v := (.int c0)) (by rw [e0]; exact Ar1.1) (State.isArrayOf_alike hZ.alike Ar1.2.1) Ar1.2.2 (inb_of Sz1 ⟨by decide, by decide⟩) (Hh1.at (inb_of Sz1 ⟨by decide, by decide⟩) rfl) (g := (mkF m 12 #[.val (.ref s'), .val (.int (0 : Int32)), .val (.ref d), .val (.int (0 : Int32)), .val (.int (1 : Int32)), .val (.int (0 : Int32)), .unset] [(.int (0 : Int32)), (.ref s')])) rfl rfl (hb hby d7_12) _ kk) ?_
  refine go_of (B := (s₁.setTop (mkF m 15 #[.val (.ref s'), .val (.int (0 : Int32)), .val (.ref d), .val (.int (0 : Int32)), .val (.int (1 : Int32)), .val (.int (0 : Int32)), .val (.int c0)] []))) (fun _ kk => XS.istore X0.here hx rfl (hb hby d7_13) rfl rfl kk) ?_
  refine go_of (B := (s₁.setTop (mkF m 17 #[.val (.ref s'), .val (.int (0 : Int32)), .val (.ref d), .val (.int (0 : Int32)), .val (.int (1 : Int32)), .val (.int (0 : Int32)), .val (.int c0)] [(.int c0)]))) (fun _ kk => XS.iload X0.here hx rfl (hb hby d7_15) rfl kk) ?_
  refine go_of (B := (s₁.setTop (mkF m 20 #[.val (.ref s'), .val (.int (0 : Int32)), .val (.ref d), .val (.int (0 : Int32)), .val (.int (1 : Int32)), .val (.int (0 : Int32)), .val (.int c0)] [(.int (255 : Int32)), (.int c0)]))) (fun _ kk => XS.sipush X0.here hx rfl (hb hby d7_17) kk) ?_
  refine go_of (B := (s₁.setTop (mkF m 26 #[.val (.ref s'), .val (.int (0 : Int32)), .val (.ref d), .val (.int (0 : Int32)), .val (.int (1 : Int32)), .val (.int (0 : Int32)), .val (.int c0)] []))) (fun _ kk => XS.icmpYes X0.here hx rfl (pc0 := 20) (pc' := 26) rfl (hb hby d7_20) rfl (flt hc0.2).2.2.2 (by decide) (by decide) kk) ?_
  refine go_of (B := (s₁.setTop (mkF m 27 #[.val (.ref s'), .val (.int (0 : Int32)), .val (.ref d), .val (.int (0 : Int32)), .val (.int (1 : Int32)), .val (.int (0 : Int32)), .val (.int c0)] [(.ref d)]))) (fun _ kk => XS.aloadN X0.here hx rfl (hb hby d7_26) rfl rfl kk) ?_
  refine go_of (B := (s₁.setTop (mkF m 28 #[.val (.ref s'), .val (.int (0 : Int32)), .val (.ref d), .val (.int (0 : Int32)), .val (.int (1 : Int32)), .val (.int (0 : Int32)), .val (.int c0)] [(.int (0 : Int32)), (.ref d)]))) (fun _ kk => XS.iloadN X0.here hx rfl (hb hby d7_27) rfl kk) ?_
  refine go_of (B := (s₁.setTop (mkF m 30 #[.val (.ref s'), .val (.int (0 : Int32)), .val (.ref d), .val (.int (0 : Int32)), .val (.int (1 : Int32)), .val (.int (0 : Int32)), .val (.int c0)] [(.int c0), (.int (0 : Int32)), (.ref d)]))) (fun _ kk => XS.iload X0.here hx rfl (hb hby d7_28) rfl kk) ?_
  refine go_of (B := (s₁.setTop (mkF m 31 #[.val (.ref s'), .val (.int (0 : Int32)), .val (.ref d), .val (.int (0 : Int32)), .val (.int (1 : Int32)), .val (.int (0 : Int32)), .val (.int c0)] [(.int (c0.toInt8.toInt32)), (.int (0 : Int32)), (.ref d)]))) (fun _ kk => XS.i2b X0.here hx rfl (hb hby d7_30) rfl kk) ?_
  obtain ⟨cl2, Ar2, q2, Sz2, Nn2, Hh2, G2⟩ := id (Vd)
  obtain ⟨T3, h3, X3, e3, W3, st3⟩ := stB X0 hx hZ e0 Ar2 (j := (0 : Int32)) (inb_of Sz2 ⟨by decide, by decide⟩) (g := (mkF m 31 #[.val (.ref s'), .val (.int (0 : Int32)), .val (.ref d), .val (.int (0 : Int32)), .val (.int (1 : Int32)), .val (.int (0 : Int32)), .val (.int c0)] [(.int (c0.toInt8.toInt32)), (.int (0 : Int32)), (.ref d)])) rfl rfl (hb hby d7_31)
  have sz3 := W3.size
  have N3 := Fr.snoc X3 N0 (g : n0 ≤ d)
  have V3 : Arv Z h3 d kd .byte (1 : Int32) [(.int ((c0.toInt8.toInt32).toInt8.toInt32))] (.int (0 : Int32)) := Arv.set Ar2 q2 Sz2 Nn2 Hh2 G2 (fits_nar_byte _) W3 0 rfl (Nat.le_of_ble_eq_true rfl)
  rw [own_bb] at V3
  refine go_of (B := (T3.setTop (mkF m 32 #[.val (.ref s'), .val (.int (0 : Int32)), .val (.ref d), .val (.int (0 : Int32)), .val (.int (1 : Int32)), .val (.int (0 : Int32)), .val (.int c0)] []))) (st3) ?_
  refine go_of (B := (T3.setTop (mkF m 35 #[.val (.ref s'), .val (.int (1 : Int32)), .val (.ref d), .val (.int (0 : Int32)), .val (.int (1 : Int32)), .val (.int (0 : Int32)), .val (.int c0)] []))) (fun _ kk => XS.iinc X3.here hx rfl (hb hby d7_32) rfl rfl kk) ?_
  refine go_of (B := (T3.setTop (mkF m 38 #[.val (.ref s'), .val (.int (1 : Int32)), .val (.ref d), .val (.int (1 : Int32)), .val (.int (1 : Int32)), .val (.int (0 : Int32)), .val (.int c0)] []))) (fun _ kk => XS.iinc X3.here hx rfl (hb hby d7_35) rfl rfl kk) ?_
  refine go_of (B := (T3.setTop (mkF m 41 #[.val (.ref s'), .val (.int (1 : Int32)), .val (.ref d), .val (.int (1 : Int32)), .val (.int (1 : Int32)), .val (.int (1 : Int32)), .val (.int c0)] []))) (fun _ kk => XS.iinc X3.here hx rfl (hb hby d7_38) rfl rfl kk) ?_
  refine go_of (B := (T3.setTop (mkF m 3 #[.val (.ref s'), .val (.int (1 : Int32)), .val (.ref d), .val (.int (1 : Int32)), .val (.int (1 : Int32)), .val (.int (1 : Int32)), .val (.int c0)] []))) (fun _ kk => XS.goto X3.here hx rfl (pc0 := 41) (pc' := 3) rfl (hb hby d7_41) (by decide) (by decide) kk) ?_
  refine go_of (B := (T3.setTop (mkF m 5 #[.val (.ref s'), .val (.int (1 : Int32)), .val (.ref d), .val (.int (1 : Int32)), .val (.int (1 : Int32)), .val (.int (1 : Int32)), .val (.int c0)] [(.int (1 : Int32))]))) (fun _ kk => XS.iload X3.here hx rfl (hb hby d7_3) rfl kk) ?_
  refine go_of (B := (T3.setTop (mkF m 7 #[.val (.ref s'), .val (.int (1 : Int32)), .val (.ref d), .val (.int (1 : Int32)), .val (.int (1 : Int32)), .val (.int (1 : Int32)), .val (.int c0)] [(.int (1 : Int32)), (.int (1 : Int32))]))) (fun _ kk => XS.iload X3.here hx rfl (hb hby d7_5) rfl kk) ?_
  refine go_of (B := (T3.setTop (mkF m 44 #[.val (.ref s'), .val (.int (1 : Int32)), .val (.ref d), .val (.int (1 : Int32)), .val (.int (1 : Int32)), .val (.int (1 : Int32)), .val (.int c0)] []))) (fun _ kk => XS.icmpYes X3.here hx rfl (pc0 := 7) (pc' := 44) rfl (hb hby d7_7) rfl (flt (by decide : ¬ ((1 : Int32) < (1 : Int32)))).2.1 (by decide) (by decide) kk) ?_
  refine go_of (B := (T3.setTop (mkF m 46 #[.val (.ref s'), .val (.int (1 : Int32)), .val (.ref d), .val (.int (1 : Int32)), .val (.int (1 : Int32)), .val (.int (1 : Int32)), .val (.int c0)] [(.int (1 : Int32))]))) (fun _ kk => XS.iload X3.here hx rfl (hb hby d7_44) rfl kk) ?_
  refine go_end X3 (v := some (.int (1 : Int32))) (fun h => by rw [Bd.returns] at h; cases h) Bd.notSynchronized (by decide) (by decide) (Q := (Q_str_c5_1 Z s' d c0 ks kd h0 n0)) ?_ (fun fs hr => own_retI X3 hx Bd.returns (hb hby d7_46) hr)
  show (fun (v : Option Value) (h : Heap) (L : List Loc) => v = some (.int 1) ∧ Fr n0 L ∧ Keep h0 h [d] ∧ Arv Z h d kd .byte 1 [(.int (own_b8 c0))] (.int 0)) (some (.int (1 : Int32))) T3.heap _
  rw [e3]
  exact ⟨rfl, N3, ((Keep.refl h0 [d]).wr W3 (Or.inl (List.mem_of_getElem? (i := 0) rfl))), V3⟩
theorem d6_0 : decode jdk_52_method_16_code 0 = .ok (.iload_n 2, 1) := by decide +kernel
theorem d6_1 : decode jdk_52_method_16_code 1 = .ok (.newarray .byte, 2) := by decide +kernel
theorem d6_3 : decode jdk_52_method_16_code 3 = .ok (.astore_n 3, 1) := by decide +kernel
theorem d6_4 : decode jdk_52_method_16_code 4 = .ok (.aload_n 0, 1) := by decide +kernel
theorem d6_5 : decode jdk_52_method_16_code 5 = .ok (.iload_n 1, 1) := by decide +kernel
theorem d6_6 : decode jdk_52_method_16_code 6 = .ok (.aload_n 3, 1) := by decide +kernel
theorem d6_7 : decode jdk_52_method_16_code 7 = .ok (.iconst 0, 1) := by decide +kernel
theorem d6_8 : decode jdk_52_method_16_code 8 = .ok (.iload_n 2, 1) := by decide +kernel
theorem d6_9 : decode jdk_52_method_16_code 9 = .ok (.invokestatic 115, 3) := by decide +kernel
theorem pd___CI_BII_I : parseMethodDescriptor "([CI[BII)I" = some ⟨[(.array .char), .int, (.array .byte), .int, .int], some .int⟩ := by decide +kernel
theorem d6_12 : decode jdk_52_method_16_code 12 = .ok (.istore 4, 2) := by decide +kernel
theorem d6_14 : decode jdk_52_method_16_code 14 = .ok (.iload 4, 2) := by decide +kernel
theorem d6_16 : decode jdk_52_method_16_code 16 = .ok (.iload_n 2, 1) := by decide +kernel
theorem d6_17 : decode jdk_52_method_16_code 17 = .ok (.if_icmp .eq 40, 3) := by decide +kernel
theorem d6_57 : decode jdk_52_method_16_code 57 = .ok (.aload_n 3, 1) := by decide +kernel
theorem d6_58 : decode jdk_52_method_16_code 58 = .ok (.areturn, 1) := by decide +kernel
def Q_str_c3_1 (Z : State) (s' : Addr) (c0 : Int32) (ks : ClassId) (h0 : Heap) (n0 : Nat) (v : Option Value) (h : Heap) (L : List Loc) : Prop := ∃ (t : Addr) (k : ClassId), v = some (.ref t) ∧ Fr n0 L ∧ h0.size ≤ t ∧ Keep h0 h [] ∧ Arv Z h t k .byte 1 [(.int (own_b8 c0))] (.int 0)
theorem ef_str_c3_1 (m : MethodId) (s' : Addr)  : entryFrame m #[(.ref s'), (.int (0 : Int32)), (.int (1 : Int32))] 6 = mkF m 0 #[.val (.ref s'), .val (.int (0 : Int32)), .val (.int (1 : Int32)), .unset, .unset, .unset] [] := by first | (simp [entryFrame, mkF, argsToLocals, Value.category]; done) | rfl
set_option maxRecDepth 65536 in
set_option maxHeartbeats 40000000 in
theorem str_c3_1 (l : Launch) (Z : State) (a0 : Array Value) (hw : ∀ d ∈ tables_1, d.before a0 Z = true) (ws : List Jvm.Cond) (s' : Addr) (c0 : Int32) (ks : ClassId) (h0 : Heap) (n0 : Nat) (Z0 : n0 ≤ h0.size) (Vs : Arv Z h0 s' ks .char 1 [(.int c0)] (.int 0)) (hc0 : ¬ c0 < 0 ∧ ¬ (255 : Int32) < c0) :
    MetFree l (⟨"java/lang/StringUTF16", "compress", "([CII)[B"⟩ : MethodName) (head1 (Jvm.Cond.code (⟨"java/lang/StringUTF16", "compress", "([CII)[B"⟩ : MethodName) jdk_52_method_16_code 6 (some (.array .byte)) :: ws) ({ frames := 1, cells := 1, slots := 1, locals := 18 } : Room)) (fun aa' U1' => aa' = #[(.ref s'), (.int (0 : Int32)), (.int (1 : Int32))] ∧ Z.Warmed39 U1'.vm ∧ U1'.heap = h0) (fun _ _ _ _ _ => True) (fun _ U1' oo' U2' => ∃ vv' LL', oo' = .returned vv' ∧ (Q_str_c3_1 Z s' c0 ks h0 n0) vv' U2'.heap LL' ∧ FrameEnd U1' oo' U2' LL' ({ frames := 1, cells := 1, slots := 1, locals := 18 } : Room).cells ({ frames := 1, cells := 1, slots := 1, locals := 18 } : Room).slots) := by
  refine MetFree.of_bodySF (plainFor_of_name pn_java_lang_StringUTF16) hisR ?_
  intro p e s m args below meth c s₁ Bd hml0 hP hK
  obtain ⟨rfl, hZ, hh⟩ := hP
  have hx := Bd.exec
  have hby := Bd.bytes
  have hml : c.maxLocals = 6 := hml0
  have hown : s.vm.findClass "java/lang/StringUTF16" = some m.cls := findClass_of_methodNamed Bd.named
  have hnm := (name_of_methodNamed Bd.named Bd.method).1
  have X0 : Stand p l e ({ frames := 1, cells := 1, slots := 1, locals := 18 } : Room) s m #[(.ref s'), (.int (0 : Int32)), (.int (1 : Int32))] below meth c s₁ [] 0 0 := Stand.of_body Bd
  have e0 : s₁.heap = h0 := by rw [← hh, Bd.state]; rfl
  have N0 := Fr.nil n0
  have lts := own_nlt (Vs.lt)
  refine go_of (A := s₁.setTop (entryFrame m #[(.ref s'), (.int (0 : Int32)), (.int (1 : Int32))] 6)) (B := s₁.setTop (mkF m 0 #[.val (.ref s'), .val (.int (0 : Int32)), .val (.int (1 : Int32)), .unset, .unset, .unset] [])) (fun _ kk' => castTop (ef_str_c3_1 m s') kk') ?_
  refine go_of (B := (s₁.setTop (mkF m 1 #[.val (.ref s'), .val (.int (0 : Int32)), .val (.int (1 : Int32)), .unset, .unset, .unset] [(.int (1 : Int32))]))) (fun _ kk => XS.iloadN X0.here hx rfl (hb hby d6_0) rfl kk) ?_
  obtain ⟨T1, h1, k1, X1, e1, E1, A1, st1⟩ := newP X0 hx hZ (hw _ (List.mem_of_getElem? (i := 29) rfl)) e0 (g := (mkF m 1 #[.val (.ref s'), .val (.int (0 : Int32)), .val (.int (1 : Int32)), .unset, .unset, .unset] [(.int (1 : Int32))])) rfl (hb hby d6_1) rfl (by decide) (cap := 1) (by decide) (by decide) (by decide) (by decide)
  obtain ⟨b1, g1⟩ : ∃ z, z = h0.size := ⟨_, rfl⟩
  rw [← g1] at A1 st1
  have hi1 := own_nlt A1.lt
  have sz1 := E1.1
  have V1 : Arv Z h1 b1 k1 .byte (1 : Int32) [(.int (0 : Int32))] (.int (0 : Int32)) := (Arv.new A1 (by decide)).pad (pad_rep [] (.int (0 : Int32)) 1)
  refine go_of (B := (T1.setTop (mkF m 3 #[.val (.ref s'), .val (.int (0 : Int32)), .val (.int (1 : Int32)), .unset, .unset, .unset] [(.ref b1)]))) (st1) ?_
  refine go_of (B := (T1.setTop (mkF m 4 #[.val (.ref s'), .val (.int (0 : Int32)), .val (.int (1 : Int32)), .val (.ref b1), .unset, .unset] []))) (fun _ kk => XS.astoreN X1.here hx rfl (hb hby d6_3) rfl rfl rfl kk) ?_
  refine go_of (B := (T1.setTop (mkF m 5 #[.val (.ref s'), .val (.int (0 : Int32)), .val (.int (1 : Int32)), .val (.ref b1), .unset, .unset] [(.ref s')]))) (fun _ kk => XS.aloadN X1.here hx rfl (hb hby d6_4) rfl rfl kk) ?_
  refine go_of (B := (T1.setTop (mkF m 6 #[.val (.ref s'), .val (.int (0 : Int32)), .val (.int (1 : Int32)), .val (.ref b1), .unset, .unset] [(.int (0 : Int32)), (.ref s')]))) (fun _ kk => XS.iloadN X1.here hx rfl (hb hby d6_5) rfl kk) ?_
  refine go_of (B := (T1.setTop (mkF m 7 #[.val (.ref s'), .val (.int (0 : Int32)), .val (.int (1 : Int32)), .val (.ref b1), .unset, .unset] [(.ref b1), (.int (0 : Int32)), (.ref s')]))) (fun _ kk => XS.aloadN X1.here hx rfl (hb hby d6_6) rfl rfl kk) ?_
  refine go_of (B := (T1.setTop (mkF m 8 #[.val (.ref s'), .val (.int (0 : Int32)), .val (.int (1 : Int32)), .val (.ref b1), .unset, .unset] [(.int (0 : Int32)), (.ref b1), (.int (0 : Int32)), (.ref s')]))) (fun _ kk => XS.iconst X1.here hx rfl (hb hby d6_7) kk) ?_
  refine go_of (B := (T1.setTop (mkF m 9 #[.val (.ref s'), .val (.int (0 : Int32)), .val (.int (1 : Int32)), .val (.ref b1), .unset, .unset] [(.int (1 : Int32)), (.int (0 : Int32)), (.ref b1), (.int (0 : Int32)), (.ref s')]))) (fun _ kk => XS.iloadN X1.here hx rfl (hb hby d6_8) rfl kk) ?_
  have cf_2 := (Vs.ext E1)
  obtain ⟨_, _, ⟨T3, L3, k3, n3⟩, -, X3, ⟨Lc3, hQ3, l3, y3, z3⟩, st3⟩ := Jvm.LawKit.callS X1 hx (y := (⟨"java/lang/StringUTF16", "compress", "([CI[BII)I"⟩ : MethodName)) hown (mvT hZ (hw _ (List.mem_of_getElem? (i := 30) rfl))) (mvT hZ (hw _ (List.mem_of_getElem? (i := 31) rfl))) (mvT hZ (hw _ (List.mem_of_getElem? (i := 27) rfl))) (mvT hZ (hw _ (List.mem_of_getElem? (i := 32) rfl))) (by decide) (backOf (W := 0) (str_c5_1 l Z a0 hw [] s' b1 c0 ks k1 h1 n0 (by first | omega | exact own_ne (by omega) | exact own_le (by omega) | exact own_lt (by omega)) cf_2 V1 (by first | omega | exact own_ne (by omega) | exact own_le (by omega) | exact own_lt (by omega)) (by first | omega | exact own_ne (by omega) | exact own_le (by omega) | exact own_lt (by omega)) hc0) hZ (hw _ (List.mem_of_getElem? (i := 32) rfl)) (hw _ (List.mem_of_getElem? (i := 27) rfl)) (by decide) (by decide)) (g := (mkF m 9 #[.val (.ref s'), .val (.int (0 : Int32)), .val (.int (1 : Int32)), .val (.ref b1), .unset, .unset] [(.int (1 : Int32)), (.int (0 : Int32)), (.ref b1), (.int (0 : Int32)), (.ref s')])) rfl (by rw [hml]; rfl) (argsL := [(.ref s'), (.int (0 : Int32)), (.ref b1), (.int (0 : Int32)), (.int (1 : Int32))]) (rest := []) (lenOf pd___CI_BII_I rfl) rfl (by show 2 * 0 + _ ≤ _; exact Nat.le_of_eq rfl) (hb hby d6_9) (fun _ _ => ⟨rfl, e1, (by decide : 1 + 0 ≤ _), (by decide : 1 + 0 ≤ _)⟩)
  dsimp only [Pt.U, Pt.locs, Pt.cells, Pt.slots] at X3 l3 y3 z3 st3 hQ3
  subst l3 y3 z3
  obtain ⟨rfl, N3q, K3, V3⟩ := hQ3
  have N3 := Fr.app N0 N3q
  have sz3 := K3.1
  refine go_of (B := (T3.setTop (mkF m 12 #[.val (.ref s'), .val (.int (0 : Int32)), .val (.int (1 : Int32)), .val (.ref b1), .unset, .unset] [(.int (1 : Int32))]))) (st3) ?_
  refine go_of (B := (T3.setTop (mkF m 14 #[.val (.ref s'), .val (.int (0 : Int32)), .val (.int (1 : Int32)), .val (.ref b1), .val (.int (1 : Int32)), .unset] []))) (fun _ kk => XS.istore X3.here hx rfl (hb hby d6_12) rfl rfl kk) ?_
  refine go_of (B := (T3.setTop (mkF m 16 #[.val (.ref s'), .val (.int (0 : Int32)), .val (.int (1 : Int32)), .val (.ref b1), .val (.int (1 : Int32)), .unset] [(.int (1 : Int32))]))) (fun _ kk => XS.iload X3.here hx rfl (hb hby d6_14) rfl kk) ?_
  refine go_of (B := (T3.setTop (mkF m 17 #[.val (.ref s'), .val (.int (0 : Int32)), .val (.int (1 : Int32)), .val (.ref b1), .val (.int (1 : Int32)), .unset] [(.int (1 : Int32)), (.int (1 : Int32))]))) (fun _ kk => XS.iloadN X3.here hx rfl (hb hby d6_16) rfl kk) ?_
  refine go_of (B := (T3.setTop (mkF m 57 #[.val (.ref s'), .val (.int (0 : Int32)), .val (.int (1 : Int32)), .val (.ref b1), .val (.int (1 : Int32)), .unset] []))) (fun _ kk => XS.icmpYes X3.here hx rfl (pc0 := 17) (pc' := 57) rfl (hb hby d6_17) rfl (teq (by decide : (1 : Int32) = (1 : Int32))).1 (by decide) (by decide) kk) ?_
  refine go_of (B := (T3.setTop (mkF m 58 #[.val (.ref s'), .val (.int (0 : Int32)), .val (.int (1 : Int32)), .val (.ref b1), .val (.int (1 : Int32)), .unset] [(.ref b1)]))) (fun _ kk => XS.aloadN X3.here hx rfl (hb hby d6_57) rfl rfl kk) ?_
  refine go_end X3 (v := some (.ref b1)) (fun h => by rw [Bd.returns] at h; cases h) Bd.notSynchronized (by decide) (by decide) (Q := (Q_str_c3_1 Z s' c0 ks h0 n0)) ?_ (fun fs hr => own_retA X3 hx Bd.returns rfl rfl (hb hby d6_58) hr)
  show (fun (v : Option Value) (h : Heap) (L : List Loc) => ∃ (t : Addr) (k : ClassId), v = some (.ref t) ∧ Fr n0 L ∧ h0.size ≤ t ∧ Keep h0 h [] ∧ Arv Z h t k .byte 1 [(.int (own_b8 c0))] (.int 0)) (some (.ref b1)) T3.heap _
  exact ⟨b1, k1, rfl, N3, by omega, (((Keep.refl h0 []).ext E1).trans K3 (allS (Or.inr (by first | omega | exact own_ne (by omega) | exact own_le (by omega) | exact own_lt (by omega))) all0)), V3⟩
theorem d8_0 : decode jdk_52_method_15_code 0 = .ok (.iload_n 1, 1) := by decide +kernel
theorem d8_1 : decode jdk_52_method_15_code 1 = .ok (.aload_n 0, 1) := by decide +kernel
theorem d8_2 : decode jdk_52_method_15_code 2 = .ok (.arraylength, 1) := by decide +kernel
theorem d8_3 : decode jdk_52_method_15_code 3 = .ok (.isub, 1) := by decide +kernel
theorem d8_4 : decode jdk_52_method_15_code 4 = .ok (.bipush 31, 2) := by decide +kernel
theorem d8_6 : decode jdk_52_method_15_code 6 = .ok (.iushr, 1) := by decide +kernel
theorem d8_7 : decode jdk_52_method_15_code 7 = .ok (.i2b, 1) := by decide +kernel
theorem d8_8 : decode jdk_52_method_15_code 8 = .ok (.ireturn, 1) := by decide +kernel
def Q_str_cf_1 (Z : State) (t : Addr) (k : ClassId) (vs : List Value) (h0 : Heap) (n0 : Nat) (v : Option Value) (h : Heap) (L : List Loc) : Prop := v = some (.int 0) ∧ Fr n0 L ∧ h = h0
theorem ef_str_cf_1 (m : MethodId) (t : Addr)  : entryFrame m #[(.ref t), (.int (1 : Int32))] 2 = mkF m 0 #[.val (.ref t), .val (.int (1 : Int32))] [] := by first | (simp [entryFrame, mkF, argsToLocals, Value.category]; done) | rfl
set_option maxRecDepth 65536 in
set_option maxHeartbeats 40000000 in
theorem str_cf_1 (l : Launch) (Z : State) (a0 : Array Value) (hw : ∀ d ∈ tables_1, d.before a0 Z = true) (ws : List Jvm.Cond) (t : Addr) (k : ClassId) (vs : List Value) (h0 : Heap) (n0 : Nat) (Z0 : n0 ≤ h0.size) (V : Arv Z h0 t k .byte 1 vs (.int 0)) :
    MetFree l (⟨"java/lang/StringUTF16", "coderFromArrayLen", "([BI)B"⟩ : MethodName) (head1 (Jvm.Cond.code (⟨"java/lang/StringUTF16", "coderFromArrayLen", "([BI)B"⟩ : MethodName) jdk_52_method_15_code 2 (some .byte) :: ws) ({ frames := 0, cells := 0, slots := 0, locals := 0 } : Room)) (fun aa' U1' => aa' = #[(.ref t), (.int (1 : Int32))] ∧ Z.Warmed39 U1'.vm ∧ U1'.heap = h0) (fun _ _ _ _ _ => True) (fun _ U1' oo' U2' => ∃ vv' LL', oo' = .returned vv' ∧ (Q_str_cf_1 Z t k vs h0 n0) vv' U2'.heap LL' ∧ FrameEnd U1' oo' U2' LL' ({ frames := 0, cells := 0, slots := 0, locals := 0 } : Room).cells ({ frames := 0, cells := 0, slots := 0, locals := 0 } : Room).slots) := by
  refine MetFree.of_bodySF (plainFor_of_name pn_java_lang_StringUTF16) hisR ?_
  intro p e s m args below meth c s₁ Bd hml0 hP hK
  obtain ⟨rfl, hZ, hh⟩ := hP
  have hx := Bd.exec
  have hby := Bd.bytes
  have hml : c.maxLocals = 2 := hml0
  have hown : s.vm.findClass "java/lang/StringUTF16" = some m.cls := findClass_of_methodNamed Bd.named
  have hnm := (name_of_methodNamed Bd.named Bd.method).1
  have X0 : Stand p l e ({ frames := 0, cells := 0, slots := 0, locals := 0 } : Room) s m #[(.ref t), (.int (1 : Int32))] below meth c s₁ [] 0 0 := Stand.of_body Bd
  have e0 : s₁.heap = h0 := by rw [← hh, Bd.state]; rfl
  have N0 := Fr.nil n0
  refine go_of (A := s₁.setTop (entryFrame m #[(.ref t), (.int (1 : Int32))] 2)) (B := s₁.setTop (mkF m 0 #[.val (.ref t), .val (.int (1 : Int32))] [])) (fun _ kk' => castTop (ef_str_cf_1 m t) kk') ?_
  refine go_of (B := (s₁.setTop (mkF m 1 #[.val (.ref t), .val (.int (1 : Int32))] [(.int (1 : Int32))]))) (fun _ kk => XS.iloadN X0.here hx rfl (hb hby d8_0) rfl kk) ?_
  refine go_of (B := (s₁.setTop (mkF m 2 #[.val (.ref t), .val (.int (1 : Int32))] [(.ref t), (.int (1 : Int32))]))) (fun _ kk => XS.aloadN X0.here hx rfl (hb hby d8_1) rfl rfl kk) ?_
  obtain ⟨cl1, Ar1, q1, Sz1, Nn1, Hh1, G1⟩ := id (V)
  have ln1 := len_of Sz1 Nn1
  refine go_of (B := (s₁.setTop (mkF m 3 #[.val (.ref t), .val (.int (1 : Int32))] [(.int (1 : Int32)), (.int (1 : Int32))]))) (fun _ kk => X0.arraylength hx (by rw [e0]; exact Ar1.1) (State.isArrayOf_alike hZ.alike Ar1.2.1) (g := (mkF m 2 #[.val (.ref t), .val (.int (1 : Int32))] [(.ref t), (.int (1 : Int32))])) rfl rfl (hb hby d8_2) _ (by rw [ln1]; exact kk)) ?_
  refine go_of (B := (s₁.setTop (mkF m 4 #[.val (.ref t), .val (.int (1 : Int32))] [(.int (0 : Int32))]))) (fun _ kk => XS.isub X0.here hx rfl (hb hby d8_3) rfl kk) ?_
  refine go_of (B := (s₁.setTop (mkF m 6 #[.val (.ref t), .val (.int (1 : Int32))] [(.int (31 : Int32)), (.int (0 : Int32))]))) (fun _ kk => XS.bipush X0.here hx rfl (hb hby d8_4) kk) ?_
  refine go_of (B := (s₁.setTop (mkF m 7 #[.val (.ref t), .val (.int (1 : Int32))] [(.int (0 : Int32))]))) (fun _ kk => XS.iushr X0.here hx rfl (hb hby d8_6) rfl kk) ?_
  refine go_of (B := (s₁.setTop (mkF m 8 #[.val (.ref t), .val (.int (1 : Int32))] [(.int (0 : Int32))]))) (fun _ kk => XS.i2b X0.here hx rfl (hb hby d8_7) rfl kk) ?_
  refine go_end X0 (v := some (.int (nar .byte (0 : Int32)))) (fun h => by rw [Bd.returns] at h; cases h) Bd.notSynchronized (by decide) (by decide) (Q := (Q_str_cf_1 Z t k vs h0 n0)) ?_ (fun fs hr => retN X0 hx (t := .byte) Bd.returns (by simp) (hb hby d8_8) hr)
  show (fun (v : Option Value) (h : Heap) (L : List Loc) => v = some (.int 0) ∧ Fr n0 L ∧ h = h0) (some (.int (nar .byte (0 : Int32)))) s₁.heap _
  rw [e0]
  exact ⟨rfl, N0, rfl⟩
theorem d4_0 : decode jdk_42_method_149_code 0 = .ok (.aload_n 0, 1) := by decide +kernel
theorem d4_1 : decode jdk_42_method_149_code 1 = .ok (.invokespecial 1, 3) := by decide +kernel
theorem d4_4 : decode jdk_42_method_149_code 4 = .ok (.iload_n 3, 1) := by decide +kernel
theorem d4_5 : decode jdk_42_method_149_code 5 = .ok (.ifCond .ne 22, 3) := by decide +kernel
theorem d4_27 : decode jdk_42_method_149_code 27 = .ok (.getstatic 38, 3) := by decide +kernel
theorem d4_30 : decode jdk_42_method_149_code 30 = .ok (.ifCond .eq 28, 3) := by decide +kernel
theorem d4_33 : decode jdk_42_method_149_code 33 = .ok (.aload_n 1, 1) := by decide +kernel
theorem d4_34 : decode jdk_42_method_149_code 34 = .ok (.iload_n 2, 1) := by decide +kernel
theorem d4_35 : decode jdk_42_method_149_code 35 = .ok (.iload_n 3, 1) := by decide +kernel
theorem d4_36 : decode jdk_42_method_149_code 36 = .ok (.invokestatic 177, 3) := by decide +kernel
theorem pd___CII__B : parseMethodDescriptor "([CII)[B" = some ⟨[(.array .char), .int, .int], some (.array .byte)⟩ := by decide +kernel
theorem d4_39 : decode jdk_42_method_149_code 39 = .ok (.astore 5, 2) := by decide +kernel
theorem d4_41 : decode jdk_42_method_149_code 41 = .ok (.aload_n 0, 1) := by decide +kernel
theorem d4_42 : decode jdk_42_method_149_code 42 = .ok (.aload 5, 2) := by decide +kernel
theorem d4_44 : decode jdk_42_method_149_code 44 = .ok (.iload_n 3, 1) := by decide +kernel
theorem d4_45 : decode jdk_42_method_149_code 45 = .ok (.invokestatic 47, 3) := by decide +kernel
theorem pd___BI_B : parseMethodDescriptor "([BI)B" = some ⟨[(.array .byte), .int], some .byte⟩ := by decide +kernel
theorem d4_48 : decode jdk_42_method_149_code 48 = .ok (.putfield 15, 3) := by decide +kernel
theorem d4_51 : decode jdk_42_method_149_code 51 = .ok (.aload_n 0, 1) := by decide +kernel
theorem d4_52 : decode jdk_42_method_149_code 52 = .ok (.aload 5, 2) := by decide +kernel
theorem d4_54 : decode jdk_42_method_149_code 54 = .ok (.putfield 9, 3) := by decide +kernel
theorem d4_57 : decode jdk_42_method_149_code 57 = .ok (.return_, 1) := by decide +kernel
def Q_str_i4_1 (Z : State) (a : Addr) (s' : Addr) (c0 : Int32) (ks : ClassId) (gC : Int32) (u : Value) (u2 : Value) (h0 : Heap) (n0 : Nat) (v : Option Value) (h : Heap) (L : List Loc) : Prop := v = none ∧ Fr n0 L ∧ Keep h0 h [a] ∧ Str Z h a 1 [c0]
theorem ef_str_i4_1 (m : MethodId) (a : Addr) (s' : Addr)  : entryFrame m #[(.ref a), (.ref s'), (.int (0 : Int32)), (.int (1 : Int32)), .null] 6 = mkF m 0 #[.val (.ref a), .val (.ref s'), .val (.int (0 : Int32)), .val (.int (1 : Int32)), .val .null, .unset] [] := by first | (simp [entryFrame, mkF, argsToLocals, Value.category]; done) | rfl
set_option maxRecDepth 65536 in
set_option maxHeartbeats 40000000 in
theorem str_i4_1 (l : Launch) (Z : State) (a0 : Array Value) (hw : ∀ d ∈ tables_1, d.before a0 Z = true) (ws : List Jvm.Cond) (a : Addr) (s' : Addr) (c0 : Int32) (ks : ClassId) (gC : Int32) (u : Value) (u2 : Value) (h0 : Heap) (n0 : Nat) (Z0 : n0 ≤ h0.size) (O : Old Z n0 h0) (SC : Sta Z Z.heap "java/lang/String" "COMPACT_STRINGS" "Z" (.int gC)) (hgC : ¬ gC = (0 : Int32)) (E : Exa Z h0 a "java/lang/String") (F : Fld Z h0 a "java/lang/String" "value" "[B" u) (F2 : Fld Z h0 a "java/lang/String" "coder" "B" u2) (g : n0 ≤ a) (Vs : Arv Z h0 s' ks .char 1 [(.int c0)] (.int 0)) (hc0 : ¬ c0 < 0 ∧ ¬ (255 : Int32) < c0) :
    MetFree l (⟨"java/lang/String", "<init>", "([CIILjava/lang/Void;)V"⟩ : MethodName) (head1 (Jvm.Cond.code (⟨"java/lang/String", "<init>", "([CIILjava/lang/Void;)V"⟩ : MethodName) jdk_42_method_149_code 6 none :: ws) ({ frames := 2, cells := 1, slots := 1, locals := 35 } : Room)) (fun aa' U1' => aa' = #[(.ref a), (.ref s'), (.int (0 : Int32)), (.int (1 : Int32)), .null] ∧ Z.Warmed39 U1'.vm ∧ U1'.heap = h0) (fun _ _ _ _ _ => True) (fun _ U1' oo' U2' => ∃ vv' LL', oo' = .returned vv' ∧ (Q_str_i4_1 Z a s' c0 ks gC u u2 h0 n0) vv' U2'.heap LL' ∧ FrameEnd U1' oo' U2' LL' ({ frames := 2, cells := 1, slots := 1, locals := 35 } : Room).cells ({ frames := 2, cells := 1, slots := 1, locals := 35 } : Room).slots) := by
  refine MetFree.of_bodySF (plainFor_of_name pn_java_lang_String) hisR ?_
  intro p e s m args below meth c s₁ Bd hml0 hP hK
  obtain ⟨rfl, hZ, hh⟩ := hP
  have hx := Bd.exec
  have hby := Bd.bytes
  have hml : c.maxLocals = 6 := hml0
  have hown : s.vm.findClass "java/lang/String" = some m.cls := findClass_of_methodNamed Bd.named
  have hnm := (name_of_methodNamed Bd.named Bd.method).1
  have X0 : Stand p l e ({ frames := 2, cells := 1, slots := 1, locals := 35 } : Room) s m #[(.ref a), (.ref s'), (.int (0 : Int32)), (.int (1 : Int32)), .null] below meth c s₁ [] 0 0 := Stand.of_body Bd
  have e0 : s₁.heap = h0 := by rw [← hh, Bd.state]; rfl
  have N0 := Fr.nil n0
  have lta := own_nlt (E.lt)
  have lts := own_nlt (Vs.lt)
  refine go_of (A := s₁.setTop (entryFrame m #[(.ref a), (.ref s'), (.int (0 : Int32)), (.int (1 : Int32)), .null] 6)) (B := s₁.setTop (mkF m 0 #[.val (.ref a), .val (.ref s'), .val (.int (0 : Int32)), .val (.int (1 : Int32)), .val .null, .unset] [])) (fun _ kk' => castTop (ef_str_i4_1 m a s') kk') ?_
  refine go_of (B := (s₁.setTop (mkF m 1 #[.val (.ref a), .val (.ref s'), .val (.int (0 : Int32)), .val (.int (1 : Int32)), .val .null, .unset] [(.ref a)]))) (fun _ kk => XS.aloadN X0.here hx rfl (hb hby d4_0) rfl rfl kk) ?_
  obtain ⟨T1, X1, e1, st1⟩ := initO X0 hx hZ hown (hw _ (List.mem_of_getElem? (i := 21) rfl)) (hw _ (List.mem_of_getElem? (i := 22) rfl)) (hw _ (List.mem_of_getElem? (i := 23) rfl)) e0 (g := (mkF m 1 #[.val (.ref a), .val (.ref s'), .val (.int (0 : Int32)), .val (.int (1 : Int32)), .val .null, .unset] [(.ref a)])) rfl (by rw [hml]; rfl) rfl (hb hby d4_1) (by decide) (W := 0) (by show 2 * 0 + _ ≤ _; exact Nat.le_of_eq rfl) (by decide)
  refine go_of (B := (T1.setTop (mkF m 4 #[.val (.ref a), .val (.ref s'), .val (.int (0 : Int32)), .val (.int (1 : Int32)), .val .null, .unset] []))) (st1) ?_
  refine go_of (B := (T1.setTop (mkF m 5 #[.val (.ref a), .val (.ref s'), .val (.int (0 : Int32)), .val (.int (1 : Int32)), .val .null, .unset] [(.int (1 : Int32))]))) (fun _ kk => XS.iloadN X1.here hx rfl (hb hby d4_4) rfl kk) ?_
  refine go_of (B := (T1.setTop (mkF m 27 #[.val (.ref a), .val (.ref s'), .val (.int (0 : Int32)), .val (.int (1 : Int32)), .val .null, .unset] []))) (fun _ kk => XS.ifYes X1.here hx rfl (pc0 := 5) (pc' := 27) rfl (hb hby d4_5) rfl ((if0 _ _).trans (feq (by decide : ¬ ((1 : Int32) = (0 : Int32)))).2) (by decide) (by decide) kk) ?_
  obtain ⟨T2, X2, e2, st2⟩ := getS2 X1 hx hZ hown (host := "") (Or.inl (hw _ (List.mem_of_getElem? (i := 24) rfl))) Via.refl e1 (SC.ext O.2) (g := (mkF m 27 #[.val (.ref a), .val (.ref s'), .val (.int (0 : Int32)), .val (.int (1 : Int32)), .val .null, .unset] [])) rfl (hb hby d4_27)
  refine go_of (B := (T2.setTop (mkF m 30 #[.val (.ref a), .val (.ref s'), .val (.int (0 : Int32)), .val (.int (1 : Int32)), .val .null, .unset] [(.int gC)]))) (st2) ?_
  refine go_of (B := (T2.setTop (mkF m 33 #[.val (.ref a), .val (.ref s'), .val (.int (0 : Int32)), .val (.int (1 : Int32)), .val .null, .unset] []))) (fun _ kk => XS.ifNo X2.here hx rfl (hb hby d4_30) rfl ((if0 _ _).trans (feq hgC).1) kk) ?_
  refine go_of (B := (T2.setTop (mkF m 34 #[.val (.ref a), .val (.ref s'), .val (.int (0 : Int32)), .val (.int (1 : Int32)), .val .null, .unset] [(.ref s')]))) (fun _ kk => XS.aloadN X2.here hx rfl (hb hby d4_33) rfl rfl kk) ?_
  refine go_of (B := (T2.setTop (mkF m 35 #[.val (.ref a), .val (.ref s'), .val (.int (0 : Int32)), .val (.int (1 : Int32)), .val .null, .unset] [(.int (0 : Int32)), (.ref s')]))) (fun _ kk => XS.iloadN X2.here hx rfl (hb hby d4_34) rfl kk) ?_
  refine go_of (B := (T2.setTop (mkF m 36 #[.val (.ref a), .val (.ref s'), .val (.int (0 : Int32)), .val (.int (1 : Int32)), .val .null, .unset] [(.int (1 : Int32)), (.int (0 : Int32)), (.ref s')]))) (fun _ kk => XS.iloadN X2.here hx rfl (hb hby d4_35) rfl kk) ?_
  obtain ⟨_, _, ⟨T3, L3, k3, n3⟩, -, X3, ⟨Lc3, hQ3, l3, y3, z3⟩, st3⟩ := Jvm.LawKit.callS X2 hx (y := (⟨"java/lang/StringUTF16", "compress", "([CII)[B"⟩ : MethodName)) hown (mvT hZ (hw _ (List.mem_of_getElem? (i := 25) rfl))) (mvT hZ (hw _ (List.mem_of_getElem? (i := 26) rfl))) (mvT hZ (hw _ (List.mem_of_getElem? (i := 27) rfl))) (mvT hZ (hw _ (List.mem_of_getElem? (i := 28) rfl))) (by decide) (backOf (W := 0) (str_c3_1 l Z a0 hw [] s' c0 ks h0 n0 (by first | omega | exact own_ne (by omega) | exact own_le (by omega) | exact own_lt (by omega)) Vs hc0) hZ (hw _ (List.mem_of_getElem? (i := 28) rfl)) (hw _ (List.mem_of_getElem? (i := 27) rfl)) (by decide) (by decide)) (g := (mkF m 36 #[.val (.ref a), .val (.ref s'), .val (.int (0 : Int32)), .val (.int (1 : Int32)), .val .null, .unset] [(.int (1 : Int32)), (.int (0 : Int32)), (.ref s')])) rfl (by rw [hml]; rfl) (argsL := [(.ref s'), (.int (0 : Int32)), (.int (1 : Int32))]) (rest := []) (lenOf pd___CII__B rfl) rfl (by show 2 * 0 + _ ≤ _; exact Nat.le_of_eq rfl) (hb hby d4_36) (fun _ _ => ⟨rfl, e2, (by decide : 0 + 1 ≤ _), (by decide : 0 + 1 ≤ _)⟩)
  dsimp only [Pt.U, Pt.locs, Pt.cells, Pt.slots] at X3 l3 y3 z3 st3 hQ3
  subst l3 y3 z3
  obtain ⟨b3, k3, rfl, N3q, lo3, K3, V3⟩ := hQ3
  have lo3 := own_nle lo3
  have N3 := Fr.app N0 N3q
  have hi3 := own_nlt (V3.lt)
  have sz3 := K3.1
  refine go_of (B := (T3.setTop (mkF m 39 #[.val (.ref a), .val (.ref s'), .val (.int (0 : Int32)), .val (.int (1 : Int32)), .val .null, .unset] [(.ref b3)]))) (st3) ?_
  refine go_of (B := (T3.setTop (mkF m 41 #[.val (.ref a), .val (.ref s'), .val (.int (0 : Int32)), .val (.int (1 : Int32)), .val .null, .val (.ref b3)] []))) (fun _ kk => XS.astore X3.here hx rfl (hb hby d4_39) rfl rfl rfl kk) ?_
  refine go_of (B := (T3.setTop (mkF m 42 #[.val (.ref a), .val (.ref s'), .val (.int (0 : Int32)), .val (.int (1 : Int32)), .val .null, .val (.ref b3)] [(.ref a)]))) (fun _ kk => XS.aloadN X3.here hx rfl (hb hby d4_41) rfl rfl kk) ?_
  refine go_of (B := (T3.setTop (mkF m 44 #[.val (.ref a), .val (.ref s'), .val (.int (0 : Int32)), .val (.int (1 : Int32)), .val .null, .val (.ref b3)] [(.ref b3), (.ref a)]))) (fun _ kk => XS.aload X3.here hx rfl (hb hby d4_42) rfl rfl kk) ?_
  refine go_of (B := (T3.setTop (mkF m 45 #[.val (.ref a), .val (.ref s'), .val (.int (0 : Int32)), .val (.int (1 : Int32)), .val .null, .val (.ref b3)] [(.int (1 : Int32)), (.ref b3), (.ref a)]))) (fun _ kk => XS.iloadN X3.here hx rfl (hb hby d4_44) rfl kk) ?_
  obtain ⟨_, _, ⟨T4, L4, k4, n4⟩, -, X4, ⟨Lc4, hQ4, l4, y4, z4⟩, st4⟩ := Jvm.LawKit.callS X3 hx (y := (⟨"java/lang/StringUTF16", "coderFromArrayLen", "([BI)B"⟩ : MethodName)) hown (mvT hZ (hw _ (List.mem_of_getElem? (i := 33) rfl))) (mvT hZ (hw _ (List.mem_of_getElem? (i := 34) rfl))) (mvT hZ (hw _ (List.mem_of_getElem? (i := 27) rfl))) (mvT hZ (hw _ (List.mem_of_getElem? (i := 35) rfl))) (by decide) (backOf (W := 1) (str_cf_1 l Z a0 hw [] b3 k3 _ T3.heap n0 (by first | omega | exact own_ne (by omega) | exact own_le (by omega) | exact own_lt (by omega)) V3) hZ (hw _ (List.mem_of_getElem? (i := 35) rfl)) (hw _ (List.mem_of_getElem? (i := 27) rfl)) (by decide) (by decide)) (g := (mkF m 45 #[.val (.ref a), .val (.ref s'), .val (.int (0 : Int32)), .val (.int (1 : Int32)), .val .null, .val (.ref b3)] [(.int (1 : Int32)), (.ref b3), (.ref a)])) rfl (by rw [hml]; rfl) (argsL := [(.ref b3), (.int (1 : Int32))]) (rest := [(.ref a)]) (lenOf pd___BI_B rfl) rfl (by show 2 * 0 + _ ≤ _; exact Nat.le_of_eq rfl) (hb hby d4_45) (fun _ _ => ⟨rfl, rfl, (by decide : 1 + 0 ≤ _), (by decide : 1 + 0 ≤ _)⟩)
  dsimp only [Pt.U, Pt.locs, Pt.cells, Pt.slots] at X4 l4 y4 z4 st4 hQ4
  subst l4 y4 z4
  obtain ⟨rfl, N4q, e4⟩ := hQ4
  have N4 := Fr.app N3 N4q
  refine go_of (B := (T4.setTop (mkF m 48 #[.val (.ref a), .val (.ref s'), .val (.int (0 : Int32)), .val (.int (1 : Int32)), .val .null, .val (.ref b3)] [(.int (0 : Int32)), (.ref a)]))) (st4) ?_
  have cf_5 := (E.keep K3)
  have cf_6 := (F2.keep K3 nin0)
  obtain ⟨T7, h7, X7, e7, W7, st7⟩ := putFN X4 hx hZ hown (hw _ (List.mem_of_getElem? (i := 36) rfl)) Via.refl e4 cf_6 cf_5 (Or.inr ⟨(hw _ (List.mem_of_getElem? (i := 37) rfl)), rfl, hnm⟩) (hw _ (List.mem_of_getElem? (i := 11) rfl)) (ty := .byte) (v' := (.int (nar .byte (0 : Int32)))) (by decide) rfl (fits_nar_byte _) (g := (mkF m 48 #[.val (.ref a), .val (.ref s'), .val (.int (0 : Int32)), .val (.int (1 : Int32)), .val .null, .val (.ref b3)] [(.int (0 : Int32)), (.ref a)])) rfl rfl (hb hby d4_48)
  have sz7 := W7.size
  have Fw7 := cf_6.same W7
  have N7 := Fr.snoc X7 N4 (g : n0 ≤ a)
  refine go_of (B := (T7.setTop (mkF m 51 #[.val (.ref a), .val (.ref s'), .val (.int (0 : Int32)), .val (.int (1 : Int32)), .val .null, .val (.ref b3)] []))) (st7) ?_
  refine go_of (B := (T7.setTop (mkF m 52 #[.val (.ref a), .val (.ref s'), .val (.int (0 : Int32)), .val (.int (1 : Int32)), .val .null, .val (.ref b3)] [(.ref a)]))) (fun _ kk => XS.aloadN X7.here hx rfl (hb hby d4_51) rfl rfl kk) ?_
  refine go_of (B := (T7.setTop (mkF m 54 #[.val (.ref a), .val (.ref s'), .val (.int (0 : Int32)), .val (.int (1 : Int32)), .val .null, .val (.ref b3)] [(.ref b3), (.ref a)]))) (fun _ kk => XS.aload X7.here hx rfl (hb hby d4_52) rfl rfl kk) ?_
  have cf_8 := (cf_5.wr W7)
  have cf_9 := ((F.keep K3 nin0).other W7 (Or.inr (slot_ne (Or.inr (hw _ (List.mem_of_getElem? (i := 39) rfl))) (Or.inr (hw _ (List.mem_of_getElem? (i := 37) rfl))) (by decide) (t := (.array .byte)) (t' := .byte) (by decide) (by decide))))
  obtain ⟨T10, h10, X10, e10, W10, st10⟩ := putF X7 hx hZ hown (host := "") (Or.inl (hw _ (List.mem_of_getElem? (i := 38) rfl))) Via.refl e7 cf_9 cf_8 (Or.inr ⟨(hw _ (List.mem_of_getElem? (i := 39) rfl)), rfl, hnm⟩) (hw _ (List.mem_of_getElem? (i := 11) rfl)) (ty := (.array .byte)) (by decide) rfl rfl (g := (mkF m 54 #[.val (.ref a), .val (.ref s'), .val (.int (0 : Int32)), .val (.int (1 : Int32)), .val .null, .val (.ref b3)] [(.ref b3), (.ref a)])) rfl rfl (hb hby d4_54)
  have sz10 := W10.size
  have Fw10 := cf_9.same W10
  have N10 := Fr.snoc X10 N7 (g : n0 ≤ a)
  refine go_of (B := (T10.setTop (mkF m 57 #[.val (.ref a), .val (.ref s'), .val (.int (0 : Int32)), .val (.int (1 : Int32)), .val .null, .val (.ref b3)] []))) (st10) ?_
  have cf_11 := ((V3.other W7 (by first | omega | exact own_ne (by omega) | exact own_le (by omega) | exact own_lt (by omega))).other W10 (by first | omega | exact own_ne (by omega) | exact own_le (by omega) | exact own_lt (by omega)))
  have cf_12 := (Fw7.other W10 (Or.inr (slot_ne (Or.inr (hw _ (List.mem_of_getElem? (i := 37) rfl))) (Or.inr (hw _ (List.mem_of_getElem? (i := 39) rfl))) (by decide) (t := .byte) (t' := (.array .byte)) (by decide) (by decide))))
  have cf_13 := (cf_8.wr W10)
  refine go_end X10 (v := none) (fun _ => rfl) Bd.notSynchronized (by decide) (by decide) (Q := (Q_str_i4_1 Z a s' c0 ks gC u u2 h0 n0)) ?_ (fun fs hr => X10.returnOut hx Bd.returns (hb hby d4_57) hr)
  show (fun (v : Option Value) (h : Heap) (L : List Loc) => v = none ∧ Fr n0 L ∧ Keep h0 h [a] ∧ Str Z h a 1 [c0]) (none) T10.heap _
  rw [e10]
  exact ⟨rfl, N10, ((((Keep.refl h0 [a]).trans K3 all0).wr W7 (Or.inl (List.mem_of_getElem? (i := 0) rfl))).wr W10 (Or.inl (List.mem_of_getElem? (i := 0) rfl))), ⟨b3, k3, cf_13, cf_12, Fw10, cf_11, (own_allc hc0 (fun _ q => nomatch q)), by omega⟩⟩
theorem d3_0 : decode jdk_42_method_3_code 0 = .ok (.aload_n 0, 1) := by decide +kernel
theorem d3_1 : decode jdk_42_method_3_code 1 = .ok (.aload_n 1, 1) := by decide +kernel
theorem d3_2 : decode jdk_42_method_3_code 2 = .ok (.iconst 0, 1) := by decide +kernel
theorem d3_3 : decode jdk_42_method_3_code 3 = .ok (.aload_n 1, 1) := by decide +kernel
theorem d3_4 : decode jdk_42_method_3_code 4 = .ok (.arraylength, 1) := by decide +kernel
theorem d3_5 : decode jdk_42_method_3_code 5 = .ok (.aconst_null, 1) := by decide +kernel
theorem d3_6 : decode jdk_42_method_3_code 6 = .ok (.invokespecial 27, 3) := by decide +kernel
theorem pd___CIILjava_lang_Void__V : parseMethodDescriptor "([CIILjava/lang/Void;)V" = some ⟨[(.array .char), .int, .int, (.object "java/lang/Void")], none⟩ := by decide +kernel
theorem d3_9 : decode jdk_42_method_3_code 9 = .ok (.return_, 1) := by decide +kernel
def Q_str_i1_1 (Z : State) (a : Addr) (s' : Addr) (c0 : Int32) (ks : ClassId) (gC : Int32) (u : Value) (u2 : Value) (h0 : Heap) (n0 : Nat) (v : Option Value) (h : Heap) (L : List Loc) : Prop := v = none ∧ Fr n0 L ∧ Keep h0 h [a] ∧ Str Z h a 1 [c0]
theorem ef_str_i1_1 (m : MethodId) (a : Addr) (s' : Addr)  : entryFrame m #[(.ref a), (.ref s')] 2 = mkF m 0 #[.val (.ref a), .val (.ref s')] [] := by first | (simp [entryFrame, mkF, argsToLocals, Value.category]; done) | rfl
set_option maxRecDepth 65536 in
set_option maxHeartbeats 40000000 in
theorem str_i1_1 (l : Launch) (Z : State) (a0 : Array Value) (hw : ∀ d ∈ tables_1, d.before a0 Z = true) (ws : List Jvm.Cond) (a : Addr) (s' : Addr) (c0 : Int32) (ks : ClassId) (gC : Int32) (u : Value) (u2 : Value) (h0 : Heap) (n0 : Nat) (Z0 : n0 ≤ h0.size) (O : Old Z n0 h0) (SC : Sta Z Z.heap "java/lang/String" "COMPACT_STRINGS" "Z" (.int gC)) (hgC : ¬ gC = (0 : Int32)) (E : Exa Z h0 a "java/lang/String") (F : Fld Z h0 a "java/lang/String" "value" "[B" u) (F2 : Fld Z h0 a "java/lang/String" "coder" "B" u2) (g : n0 ≤ a) (Vs : Arv Z h0 s' ks .char 1 [(.int c0)] (.int 0)) (hc0 : ¬ c0 < 0 ∧ ¬ (255 : Int32) < c0) :
    MetFree l (⟨"java/lang/String", "<init>", "([C)V"⟩ : MethodName) (head1 (Jvm.Cond.code (⟨"java/lang/String", "<init>", "([C)V"⟩ : MethodName) jdk_42_method_3_code 2 none :: ws) ({ frames := 3, cells := 1, slots := 1, locals := 52 } : Room)) (fun aa' U1' => aa' = #[(.ref a), (.ref s')] ∧ Z.Warmed39 U1'.vm ∧ U1'.heap = h0) (fun _ _ _ _ _ => True) (fun _ U1' oo' U2' => ∃ vv' LL', oo' = .returned vv' ∧ (Q_str_i1_1 Z a s' c0 ks gC u u2 h0 n0) vv' U2'.heap LL' ∧ FrameEnd U1' oo' U2' LL' ({ frames := 3, cells := 1, slots := 1, locals := 52 } : Room).cells ({ frames := 3, cells := 1, slots := 1, locals := 52 } : Room).slots) := by
  refine MetFree.of_bodySF (plainFor_of_name pn_java_lang_String) hisR ?_
  intro p e s m args below meth c s₁ Bd hml0 hP hK
  obtain ⟨rfl, hZ, hh⟩ := hP
  have hx := Bd.exec
  have hby := Bd.bytes
  have hml : c.maxLocals = 2 := hml0
  have hown : s.vm.findClass "java/lang/String" = some m.cls := findClass_of_methodNamed Bd.named
  have hnm := (name_of_methodNamed Bd.named Bd.method).1
  have X0 : Stand p l e ({ frames := 3, cells := 1, slots := 1, locals := 52 } : Room) s m #[(.ref a), (.ref s')] below meth c s₁ [] 0 0 := Stand.of_body Bd
  have e0 : s₁.heap = h0 := by rw [← hh, Bd.state]; rfl
  have N0 := Fr.nil n0
  have lta := own_nlt (E.lt)
  have lts := own_nlt (Vs.lt)
  refine go_of (A := s₁.setTop (entryFrame m #[(.ref a), (.ref s')] 2)) (B := s₁.setTop (mkF m 0 #[.val (.ref a), .val (.ref s')] [])) (fun _ kk' => castTop (ef_str_i1_1 m a s') kk') ?_
  refine go_of (B := (s₁.setTop (mkF m 1 #[.val (.ref a), .val (.ref s')] [(.ref a)]))) (fun _ kk => XS.aloadN X0.here hx rfl (hb hby d3_0) rfl rfl kk) ?_
  refine go_of (B := (s₁.setTop (mkF m 2 #[.val (.ref a), .val (.ref s')] [(.ref s'), (.ref a)]))) (fun _ kk => XS.aloadN X0.here hx rfl (hb hby d3_1) rfl rfl kk) ?_
  refine go_of (B := (s₁.setTop (mkF m 3 #[.val (.ref a), .val (.ref s')] [(.int (0 : Int32)), (.ref s'), (.ref a)]))) (fun _ kk => XS.iconst X0.here hx rfl (hb hby d3_2) kk) ?_
  refine go_of (B := (s₁.setTop (mkF m 4 #[.val (.ref a), .val (.ref s')] [(.ref s'), (.int (0 : Int32)), (.ref s'), (.ref a)]))) (fun _ kk => XS.aloadN X0.here hx rfl (hb hby d3_3) rfl rfl kk) ?_
  obtain ⟨cl1, Ar1, q1, Sz1, Nn1, Hh1, G1⟩ := id (Vs)
  have ln1 := len_of Sz1 Nn1
  refine go_of (B := (s₁.setTop (mkF m 5 #[.val (.ref a), .val (.ref s')] [(.int (1 : Int32)), (.int (0 : Int32)), (.ref s'), (.ref a)]))) (fun _ kk => X0.arraylength hx (by rw [e0]; exact Ar1.1) (State.isArrayOf_alike hZ.alike Ar1.2.1) (g := (mkF m 4 #[.val (.ref a), .val (.ref s')] [(.ref s'), (.int (0 : Int32)), (.ref s'), (.ref a)])) rfl rfl (hb hby d3_4) _ (by rw [ln1]; exact kk)) ?_
  refine go_of (B := (s₁.setTop (mkF m 6 #[.val (.ref a), .val (.ref s')] [.null, (.int (1 : Int32)), (.int (0 : Int32)), (.ref s'), (.ref a)]))) (fun _ kk => XS.aconstNull X0.here hx rfl (hb hby d3_5) kk) ?_
  obtain ⟨_, _, ⟨T2, L2, k2, n2⟩, -, X2, ⟨Lc2, hQ2, l2, y2, z2⟩, st2⟩ := X0.specialBack hx (y := (⟨"java/lang/String", "<init>", "([CIILjava/lang/Void;)V"⟩ : MethodName)) rfl hown (mvT hZ (hw _ (List.mem_of_getElem? (i := 17) rfl))) (mvT hZ (hw _ (List.mem_of_getElem? (i := 18) rfl))) (mvT hZ (hw _ (List.mem_of_getElem? (i := 20) rfl))) (by decide) (backOf (W := 0) (str_i4_1 l Z a0 hw [] a s' c0 ks gC u u2 h0 n0 Z0 O SC hgC E F F2 g Vs hc0) hZ (hw _ (List.mem_of_getElem? (i := 20) rfl)) (hw _ (List.mem_of_getElem? (i := 12) rfl)) (by decide) (by decide)) (g := (mkF m 6 #[.val (.ref a), .val (.ref s')] [.null, (.int (1 : Int32)), (.int (0 : Int32)), (.ref s'), (.ref a)])) rfl (by rw [hml]; rfl) (Steps.refl _) (a := a) (argsL := [(.ref s'), (.int (0 : Int32)), (.int (1 : Int32)), .null]) (rest := []) (lenOf pd___CIILjava_lang_Void__V rfl) rfl (by show 2 * 0 + _ ≤ _; exact Nat.le_of_eq rfl) (hb hby d3_6) (fun _ _ => ⟨rfl, e0, (by decide : 0 + 1 ≤ _), (by decide : 0 + 1 ≤ _)⟩)
  dsimp only [Pt.U, Pt.locs, Pt.cells, Pt.slots] at X2 l2 y2 z2 st2 hQ2
  subst l2 y2 z2
  obtain ⟨rfl, N2q, K2, S2⟩ := hQ2
  have N2 := Fr.app N0 N2q
  have sz2 := K2.1
  refine go_tr (B := (T2.setTop (mkF m 9 #[.val (.ref a), .val (.ref s')] []))) (st2) ?_
  refine go_end X2 (v := none) (fun _ => rfl) Bd.notSynchronized (by decide) (by decide) (Q := (Q_str_i1_1 Z a s' c0 ks gC u u2 h0 n0)) ?_ (fun fs hr => X2.returnOut hx Bd.returns (hb hby d3_9) hr)
  show (fun (v : Option Value) (h : Heap) (L : List Loc) => v = none ∧ Fr n0 L ∧ Keep h0 h [a] ∧ Str Z h a 1 [c0]) (none) T2.heap _
  exact ⟨rfl, N2, ((Keep.refl h0 [a]).trans K2 (allS (Or.inl (List.mem_of_getElem? (i := 0) rfl)) all0)), S2⟩
theorem d2_0 : decode method_2_code 0 = .ok (.new 7, 3) := by decide +kernel
theorem d2_3 : decode method_2_code 3 = .ok (.dup, 1) := by decide +kernel
theorem d2_4 : decode method_2_code 4 = .ok (.iconst 1, 1) := by decide +kernel
theorem d2_5 : decode method_2_code 5 = .ok (.newarray .char, 2) := by decide +kernel
theorem d2_7 : decode method_2_code 7 = .ok (.dup, 1) := by decide +kernel
theorem d2_8 : decode method_2_code 8 = .ok (.iconst 0, 1) := by decide +kernel
theorem d2_9 : decode method_2_code 9 = .ok (.iload_n 0, 1) := by decide +kernel
theorem d2_10 : decode method_2_code 10 = .ok (.castore, 1) := by decide +kernel
theorem d2_11 : decode method_2_code 11 = .ok (.invokespecial 9, 3) := by decide +kernel
theorem pd___C_V : parseMethodDescriptor "([C)V" = some ⟨[(.array .char)], none⟩ := by decide +kernel
theorem d2_14 : decode method_2_code 14 = .ok (.areturn, 1) := by decide +kernel
def Q_rm2 (Z : State) (ca : Int32) (gC : Int32) (h0 : Heap) (n0 : Nat) (v : Option Value) (h : Heap) (L : List Loc) : Prop := ∃ t : Addr, v = some (.ref t) ∧ Fr n0 L ∧ h0.size ≤ t ∧ Keep h0 h [] ∧ StrL Z h t [ca]
theorem pn_com_example_sure_paths_surepaths_model_ExistentialToClassEqualsPinLaw : plainName "com/example/sure_paths/surepaths/model/ExistentialToClassEqualsPinLaw" = true := by first | (simp [plainName, overriddenIn]; done) | decide +kernel
theorem ef_rm2 (m : MethodId) (ca : Int32)  : entryFrame m #[(.int ca)] 1 = mkF m 0 #[.val (.int ca)] [] := by first | (simp [entryFrame, mkF, argsToLocals, Value.category]; done) | rfl
set_option maxRecDepth 65536 in
set_option maxHeartbeats 40000000 in
theorem rm2 (l : Launch) (Z : State) (a0 : Array Value) (hw : ∀ d ∈ tables_1, d.before a0 Z = true) (ws : List Jvm.Cond) (ca : Int32) (gC : Int32) (h0 : Heap) (n0 : Nat) (Z0 : n0 ≤ h0.size) (O : Old Z n0 h0) (SC : Sta Z Z.heap "java/lang/String" "COMPACT_STRINGS" "Z" (.int gC)) (hgC : ¬ gC = (0 : Int32)) (hca : ¬ ca < 0 ∧ ¬ (255 : Int32) < ca) :
    MetFree l (⟨"com/example/sure_paths/surepaths/model/ExistentialToClassEqualsPinLaw", "one", "(C)Ljava/lang/String;"⟩ : MethodName) (head1 (Jvm.Cond.code (⟨"com/example/sure_paths/surepaths/model/ExistentialToClassEqualsPinLaw", "one", "(C)Ljava/lang/String;"⟩ : MethodName) method_2_code 1 (some (.object "java/lang/String")) :: ws) ({ frames := 4, cells := 3, slots := 6, locals := 66 } : Room)) (fun aa' U1' => aa' = #[(.int ca)] ∧ Z.Warmed39 U1'.vm ∧ U1'.heap = h0) (fun _ _ _ _ _ => True) (fun _ U1' oo' U2' => ∃ vv' LL', oo' = .returned vv' ∧ (Q_rm2 Z ca gC h0 n0) vv' U2'.heap LL' ∧ FrameEnd U1' oo' U2' LL' ({ frames := 4, cells := 3, slots := 6, locals := 66 } : Room).cells ({ frames := 4, cells := 3, slots := 6, locals := 66 } : Room).slots) := by
  refine MetFree.of_bodySF (plainFor_of_name pn_com_example_sure_paths_surepaths_model_ExistentialToClassEqualsPinLaw) hisR ?_
  intro p e s m args below meth c s₁ Bd hml0 hP hK
  obtain ⟨rfl, hZ, hh⟩ := hP
  have hx := Bd.exec
  have hby := Bd.bytes
  have hml : c.maxLocals = 1 := hml0
  have hown : s.vm.findClass "com/example/sure_paths/surepaths/model/ExistentialToClassEqualsPinLaw" = some m.cls := findClass_of_methodNamed Bd.named
  have hnm := (name_of_methodNamed Bd.named Bd.method).1
  have X0 : Stand p l e ({ frames := 4, cells := 3, slots := 6, locals := 66 } : Room) s m #[(.int ca)] below meth c s₁ [] 0 0 := Stand.of_body Bd
  have e0 : s₁.heap = h0 := by rw [← hh, Bd.state]; rfl
  have N0 := Fr.nil n0
  refine go_of (A := s₁.setTop (entryFrame m #[(.int ca)] 1)) (B := s₁.setTop (mkF m 0 #[.val (.int ca)] [])) (fun _ kk' => castTop (ef_rm2 m ca) kk') ?_
  obtain ⟨T1, h1, X1, e1, E1, A1, D1, -, st1⟩ := newO X0 hx hZ hown (hw _ (List.mem_of_getElem? (i := 10) rfl)) (hw _ (List.mem_of_getElem? (i := 11) rfl)) (hw _ (List.mem_of_getElem? (i := 12) rfl)) e0 (g := (mkF m 0 #[.val (.int ca)] [])) rfl (hb hby d2_0) (by decide) (by decide)
  obtain ⟨b1, g1⟩ : ∃ z, z = h0.size := ⟨_, rfl⟩
  rw [← g1] at A1 D1 st1
  have hi1 := own_nlt A1.lt
  have sz1 := E1.1
  have F1_coder : Fld Z h1 b1 "java/lang/String" "coder" "B" (.int (0 : Int32)) := D1 (Or.inr (hw _ (List.mem_of_getElem? (i := 37) rfl))) (ty := .byte) (by decide)
  have F1_value : Fld Z h1 b1 "java/lang/String" "value" "[B" .null := D1 (Or.inr (hw _ (List.mem_of_getElem? (i := 39) rfl))) (ty := (.array .byte)) (by decide)
  refine go_of (B := (T1.setTop (mkF m 3 #[.val (.int ca)] [(.ref b1)]))) (st1) ?_
  refine go_of (B := (T1.setTop (mkF m 4 #[.val (.int ca)] [(.ref b1), (.ref b1)]))) (fun _ kk => XS.dup X1.here hx rfl (hb hby d2_3) rfl rfl kk) ?_
  refine go_of (B := (T1.setTop (mkF m 5 #[.val (.int ca)] [(.int (1 : Int32)), (.ref b1), (.ref b1)]))) (fun _ kk => XS.iconst X1.here hx rfl (hb hby d2_4) kk) ?_
  obtain ⟨T2, h2, k2, X2, e2, E2, A2, st2⟩ := newP X1 hx hZ (hw _ (List.mem_of_getElem? (i := 13) rfl)) e1 (g := (mkF m 5 #[.val (.int ca)] [(.int (1 : Int32)), (.ref b1), (.ref b1)])) rfl (hb hby d2_5) rfl (by decide) (cap := 1) (by decide) (by decide) (by decide) (by decide)
  obtain ⟨b2, g2⟩ : ∃ z, z = h1.size := ⟨_, rfl⟩
  rw [← g2] at A2 st2
  have hi2 := own_nlt A2.lt
  have sz2 := E2.1
  have V2 : Arv Z h2 b2 k2 .char (1 : Int32) [(.int (0 : Int32))] (.int (0 : Int32)) := (Arv.new A2 (by decide)).pad (pad_rep [] (.int (0 : Int32)) 1)
  refine go_of (B := (T2.setTop (mkF m 7 #[.val (.int ca)] [(.ref b2), (.ref b1), (.ref b1)]))) (st2) ?_
  refine go_of (B := (T2.setTop (mkF m 8 #[.val (.int ca)] [(.ref b2), (.ref b2), (.ref b1), (.ref b1)]))) (fun _ kk => XS.dup X2.here hx rfl (hb hby d2_7) rfl rfl kk) ?_
  refine go_of (B := (T2.setTop (mkF m 9 #[.val (.int ca)] [(.int (0 : Int32)), (.ref b2), (.ref b2), (.ref b1), (.ref b1)]))) (fun _ kk => XS.iconst X2.here hx rfl (hb hby d2_8) kk) ?_
  refine go_of (B := (T2.setTop (mkF m 10 #[.val (.int ca)] [(.int ca), (.int (0 : Int32)), (.ref b2), (.ref b2), (.ref b1), (.ref b1)]))) (fun _ kk => XS.iloadN X2.here hx rfl (hb hby d2_9) rfl kk) ?_
  obtain ⟨cl3, Ar3, q3, Sz3, Nn3, Hh3, G3⟩ := id (V2)
  obtain ⟨T4, h4, X4, e4, W4, st4⟩ := stC X2 hx hZ e2 Ar3 (j := (0 : Int32)) (inb_of Sz3 ⟨by decide, by decide⟩) (g := (mkF m 10 #[.val (.int ca)] [(.int ca), (.int (0 : Int32)), (.ref b2), (.ref b2), (.ref b1), (.ref b1)])) rfl rfl (hb hby d2_10)
  have sz4 := W4.size
  have N4 := Fr.snoc X4 N0 ((by first | omega | exact own_ne (by omega) | exact own_le (by omega) | exact own_lt (by omega)) : n0 ≤ b2)
  have V4 : Arv Z h4 b2 k2 .char (1 : Int32) [(.int (nar .char ca))] (.int (0 : Int32)) := Arv.set Ar3 q3 Sz3 Nn3 Hh3 G3 (fits_nar_char _) W4 0 rfl (Nat.le_of_ble_eq_true rfl)
  rw [own_narc hca] at V4
  refine go_of (B := (T4.setTop (mkF m 11 #[.val (.int ca)] [(.ref b2), (.ref b1), (.ref b1)]))) (st4) ?_
  have cf_5 := (((O.ext E1).ext E2).wr W4 (by first | omega | exact own_ne (by omega) | exact own_le (by omega) | exact own_lt (by omega)))
  have cf_6 := ((A1.ext E2).wr W4)
  have cf_7 := ((F1_value.ext E2).other W4 (Or.inl (by first | omega | exact own_ne (by omega) | exact own_le (by omega) | exact own_lt (by omega))))
  have cf_8 := ((F1_coder.ext E2).other W4 (Or.inl (by first | omega | exact own_ne (by omega) | exact own_le (by omega) | exact own_lt (by omega))))
  obtain ⟨_, _, ⟨T9, L9, k9, n9⟩, -, X9, ⟨Lc9, hQ9, l9, y9, z9⟩, st9⟩ := X4.specialBack hx (y := (⟨"java/lang/String", "<init>", "([C)V"⟩ : MethodName)) rfl hown (mvT hZ (hw _ (List.mem_of_getElem? (i := 14) rfl))) (mvT hZ (hw _ (List.mem_of_getElem? (i := 15) rfl))) (mvT hZ (hw _ (List.mem_of_getElem? (i := 16) rfl))) (by decide) (backOf (W := 1) (str_i1_1 l Z a0 hw [] b1 b2 ca k2 gC _ _ h4 n0 (by first | omega | exact own_ne (by omega) | exact own_le (by omega) | exact own_lt (by omega)) cf_5 SC hgC cf_6 cf_7 cf_8 (by first | omega | exact own_ne (by omega) | exact own_le (by omega) | exact own_lt (by omega)) V4 hca) hZ (hw _ (List.mem_of_getElem? (i := 16) rfl)) (hw _ (List.mem_of_getElem? (i := 12) rfl)) (by decide) (by decide)) (g := (mkF m 11 #[.val (.int ca)] [(.ref b2), (.ref b1), (.ref b1)])) rfl (by rw [hml]; rfl) (Steps.refl _) (a := b1) (argsL := [(.ref b2)]) (rest := [(.ref b1)]) (lenOf pd___C_V rfl) rfl (by show 2 * 0 + _ ≤ _; exact Nat.le_of_eq rfl) (hb hby d2_11) (fun _ _ => ⟨rfl, e4, (by decide : 2 + 1 ≤ _), (by decide : 5 + 1 ≤ _)⟩)
  dsimp only [Pt.U, Pt.locs, Pt.cells, Pt.slots] at X9 l9 y9 z9 st9 hQ9
  subst l9 y9 z9
  obtain ⟨rfl, N9q, K9, S9⟩ := hQ9
  have N9 := Fr.app N4 N9q
  have sz9 := K9.1
  refine go_tr (B := (T9.setTop (mkF m 14 #[.val (.int ca)] [(.ref b1)]))) (st9) ?_
  refine go_end X9 (v := some (.ref b1)) (fun h => by rw [Bd.returns] at h; cases h) Bd.notSynchronized (by decide) (by decide) (Q := (Q_rm2 Z ca gC h0 n0)) ?_ (fun fs hr => own_retA X9 hx Bd.returns rfl rfl (hb hby d2_14) hr)
  show (fun (v : Option Value) (h : Heap) (L : List Loc) => ∃ t : Addr, v = some (.ref t) ∧ Fr n0 L ∧ h0.size ≤ t ∧ Keep h0 h [] ∧ StrL Z h t [ca]) (some (.ref b1)) T9.heap _
  exact ⟨b1, rfl, N9, by omega, (((((Keep.refl h0 []).ext E1).ext E2).wr W4 (Or.inr (by first | omega | exact own_ne (by omega) | exact own_le (by omega) | exact own_lt (by omega)))).trans K9 (allS (Or.inr (by first | omega | exact own_ne (by omega) | exact own_le (by omega) | exact own_lt (by omega))) all0)), S9⟩
def Q_str_c5_2 (Z : State) (s' : Addr) (d : Addr) (c0 : Int32) (c1 : Int32) (ks : ClassId) (kd : ClassId) (h0 : Heap) (n0 : Nat) (v : Option Value) (h : Heap) (L : List Loc) : Prop := v = some (.int 2) ∧ Fr n0 L ∧ Keep h0 h [d] ∧ Arv Z h d kd .byte 2 [(.int (own_b8 c0)), (.int (own_b8 c1))] (.int 0)
theorem ef_str_c5_2 (m : MethodId) (s' : Addr) (d : Addr)  : entryFrame m #[(.ref s'), (.int (0 : Int32)), (.ref d), (.int (0 : Int32)), (.int (2 : Int32))] 7 = mkF m 0 #[.val (.ref s'), .val (.int (0 : Int32)), .val (.ref d), .val (.int (0 : Int32)), .val (.int (2 : Int32)), .unset, .unset] [] := by first | (simp [entryFrame, mkF, argsToLocals, Value.category]; done) | rfl
set_option maxRecDepth 65536 in
set_option maxHeartbeats 40000000 in
theorem str_c5_2 (l : Launch) (Z : State) (a0 : Array Value) (hw : ∀ d ∈ tables_1, d.before a0 Z = true) (ws : List Jvm.Cond) (s' : Addr) (d : Addr) (c0 : Int32) (c1 : Int32) (ks : ClassId) (kd : ClassId) (h0 : Heap) (n0 : Nat) (Z0 : n0 ≤ h0.size) (Vs : Arv Z h0 s' ks .char 2 [(.int c0), (.int c1)] (.int 0)) (Vd : Arv Z h0 d kd .byte 2 [(.int 0), (.int 0)] (.int 0)) (nsd : s' ≠ d) (g : n0 ≤ d) (hc0 : ¬ c0 < 0 ∧ ¬ (255 : Int32) < c0) (hc1 : ¬ c1 < 0 ∧ ¬ (255 : Int32) < c1) :
    MetFree l (⟨"java/lang/StringUTF16", "compress", "([CI[BII)I"⟩ : MethodName) (head1 (Jvm.Cond.code (⟨"java/lang/StringUTF16", "compress", "([CI[BII)I"⟩ : MethodName) jdk_52_method_21_code 7 (some .int) :: ws) ({ frames := 0, cells := 0, slots := 0, locals := 0 } : Room)) (fun aa' U1' => aa' = #[(.ref s'), (.int (0 : Int32)), (.ref d), (.int (0 : Int32)), (.int (2 : Int32))] ∧ Z.Warmed39 U1'.vm ∧ U1'.heap = h0) (fun _ _ _ _ _ => True) (fun _ U1' oo' U2' => ∃ vv' LL', oo' = .returned vv' ∧ (Q_str_c5_2 Z s' d c0 c1 ks kd h0 n0) vv' U2'.heap LL' ∧ FrameEnd U1' oo' U2' LL' ({ frames := 0, cells := 0, slots := 0, locals := 0 } : Room).cells ({ frames := 0, cells := 0, slots := 0, locals := 0 } : Room).slots) := by
  refine MetFree.of_bodySF (plainFor_of_name pn_java_lang_StringUTF16) hisR ?_
  intro p e s m args below meth c s₁ Bd hml0 hP hK
  obtain ⟨rfl, hZ, hh⟩ := hP
  have hx := Bd.exec
  have hby := Bd.bytes
  have hml : c.maxLocals = 7 := hml0
  have hown : s.vm.findClass "java/lang/StringUTF16" = some m.cls := findClass_of_methodNamed Bd.named
  have hnm := (name_of_methodNamed Bd.named Bd.method).1
  have X0 : Stand p l e ({ frames := 0, cells := 0, slots := 0, locals := 0 } : Room) s m #[(.ref s'), (.int (0 : Int32)), (.ref d), (.int (0 : Int32)), (.int (2 : Int32))] below meth c s₁ [] 0 0 := Stand.of_body Bd
  have e0 : s₁.heap = h0 := by rw [← hh, Bd.state]; rfl
  have N0 := Fr.nil n0
  have lts := own_nlt (Vs.lt)
  have ltd := own_nlt (Vd.lt)
  refine go_of (A := s₁.setTop (entryFrame m #[(.ref s'), (.int (0 : Int32)), (.ref d), (.int (0 : Int32)), (.int (2 : Int32))] 7)) (B := s₁.setTop (mkF m 0 #[.val (.ref s'), .val (.int (0 : Int32)), .val (.ref d), .val (.int (0 : Int32)), .val (.int (2 : Int32)), .unset, .unset] [])) (fun _ kk' => castTop (ef_str_c5_2 m s' d) kk') ?_
  refine go_of (B := (s₁.setTop (mkF m 1 #[.val (.ref s'), .val (.int (0 : Int32)), .val (.ref d), .val (.int (0 : Int32)), .val (.int (2 : Int32)), .unset, .unset] [(.int (0 : Int32))]))) (fun _ kk => XS.iconst X0.here hx rfl (hb hby d7_0) kk) ?_
  refine go_of (B := (s₁.setTop (mkF m 3 #[.val (.ref s'), .val (.int (0 : Int32)), .val (.ref d), .val (.int (0 : Int32)), .val (.int (2 : Int32)), .val (.int (0 : Int32)), .unset] []))) (fun _ kk => XS.istore X0.here hx rfl (hb hby d7_1) rfl rfl kk) ?_
  refine go_of (B := (s₁.setTop (mkF m 5 #[.val (.ref s'), .val (.int (0 : Int32)), .val (.ref d), .val (.int (0 : Int32)), .val (.int (2 : Int32)), .val (.int (0 : Int32)), .unset] [(.int (0 : Int32))]))) (fun _ kk => XS.iload X0.here hx rfl (hb hby d7_3) rfl kk) ?_
  refine go_of (B := (s₁.setTop (mkF m 7 #[.val (.ref s'), .val (.int (0 : Int32)), .val (.ref d), .val (.int (0 : Int32)), .val (.int (2 : Int32)), .val (.int (0 : Int32)), .unset] [(.int (2 : Int32)), (.int (0 : Int32))]))) (fun _ kk => XS.iload X0.here hx rfl (hb hby d7_5) rfl kk) ?_
  refine go_of (B := (s₁.setTop (mkF m 10 #[.val (.ref s'), .val (.int (0 : Int32)), .val (.ref d), .val (.int (0 : Int32)), .val (.int (2 : Int32)), .val (.int (0 : Int32)), .unset] []))) (fun _ kk => XS.icmpNo X0.here hx rfl (hb hby d7_7) rfl (tlt (by decide : (0 : Int32) < (2 : Int32))).2.1 kk) ?_
  refine go_of (B := (s₁.setTop (mkF m 11 #[.val (.ref s'), .val (.int (0 : Int32)), .val (.ref d), .val (.int (0 : Int32)), .val (.int (2 : Int32)), .val (.int (0 : Int32)), .unset] [(.ref s')]))) (fun _ kk => XS.aloadN X0.here hx rfl (hb hby d7_10) rfl rfl kk) ?_
  refine go_of (B := (s₁.setTop (mkF m 12 #[.val (.ref s'), .val (.int (0 : Int32)), .val (.ref d), .val (.int (0 : Int32)), .val (.int (2 : Int32)), .val (.int (0 : Int32)), .unset] [(.int (0 : Int32)), (.ref s')]))) (fun _ kk => XS.iloadN X0.here hx rfl (hb hby d7_11) rfl kk) ?_
  obtain ⟨cl1, Ar1, q1, Sz1, Nn1, Hh1, G1⟩ := id (Vs)
  refine go_of (B := (s₁.setTop (mkF m 13 #[.val (.ref s'), .val (.int (0 : Int32)), .val (.ref d), .val (.int (0 : Int32)), .val (.int (2 : Int32)), .val (.int (0 : Int32)), .unset] [(.int c0)]))) (fun _ kk => X0.caload hx (j := (0 : Int32)) (v := (.int c0)) (by rw [e0]; exact Ar1.1) (State.isArrayOf_alike hZ.alike Ar1.2.1) Ar1.2.2 (inb_of Sz1 ⟨by decide, by decide⟩) (Hh1.at (inb_of Sz1 ⟨by decide, by decide⟩) rfl) (g := (mkF m 12 #[.val (.ref s'), .val (.int (0 : Int32)), .val (.ref d), .val (.int (0 : Int32)), .val (.int (2 : Int32)), .val (.int (0 : Int32)), .unset] [(.int (0 : Int32)), (.ref s')])) rfl rfl (hb hby d7_12) _ kk) ?_
  refine go_of (B := (s₁.setTop (mkF m 15 #[.val (.ref s'), .val (.int (0 : Int32)), .val (.ref d), .val (.int (0 : Int32)), .val (.int (2 : Int32)), .val (.int (0 : Int32)), .val (.int c0)] []))) (fun _ kk => XS.istore X0.here hx rfl (hb hby d7_13) rfl rfl kk) ?_
  refine go_of (B := (s₁.setTop (mkF m 17 #[.val (.ref s'), .val (.int (0 : Int32)), .val (.ref d), .val (.int (0 : Int32)), .val (.int (2 : Int32)), .val (.int (0 : Int32)), .val (.int c0)] [(.int c0)]))) (fun _ kk => XS.iload X0.here hx rfl (hb hby d7_15) rfl kk) ?_
  refine go_of (B := (s₁.setTop (mkF m 20 #[.val (.ref s'), .val (.int (0 : Int32)), .val (.ref d), .val (.int (0 : Int32)), .val (.int (2 : Int32)), .val (.int (0 : Int32)), .val (.int c0)] [(.int (255 : Int32)), (.int c0)]))) (fun _ kk => XS.sipush X0.here hx rfl (hb hby d7_17) kk) ?_
  refine go_of (B := (s₁.setTop (mkF m 26 #[.val (.ref s'), .val (.int (0 : Int32)), .val (.ref d), .val (.int (0 : Int32)), .val (.int (2 : Int32)), .val (.int (0 : Int32)), .val (.int c0)] []))) (fun _ kk => XS.icmpYes X0.here hx rfl (pc0 := 20) (pc' := 26) rfl (hb hby d7_20) rfl (flt hc0.2).2.2.2 (by decide) (by decide) kk) ?_
  refine go_of (B := (s₁.setTop (mkF m 27 #[.val (.ref s'), .val (.int (0 : Int32)), .val (.ref d), .val (.int (0 : Int32)), .val (.int (2 : Int32)), .val (.int (0 : Int32)), .val (.int c0)] [(.ref d)]))) (fun _ kk => XS.aloadN X0.here hx rfl (hb hby d7_26) rfl rfl kk) ?_
  refine go_of (B := (s₁.setTop (mkF m 28 #[.val (.ref s'), .val (.int (0 : Int32)), .val (.ref d), .val (.int (0 : Int32)), .val (.int (2 : Int32)), .val (.int (0 : Int32)), .val (.int c0)] [(.int (0 : Int32)), (.ref d)]))) (fun _ kk => XS.iloadN X0.here hx rfl (hb hby d7_27) rfl kk) ?_
  refine go_of (B := (s₁.setTop (mkF m 30 #[.val (.ref s'), .val (.int (0 : Int32)), .val (.ref d), .val (.int (0 : Int32)), .val (.int (2 : Int32)), .val (.int (0 : Int32)), .val (.int c0)] [(.int c0), (.int (0 : Int32)), (.ref d)]))) (fun _ kk => XS.iload X0.here hx rfl (hb hby d7_28) rfl kk) ?_
  refine go_of (B := (s₁.setTop (mkF m 31 #[.val (.ref s'), .val (.int (0 : Int32)), .val (.ref d), .val (.int (0 : Int32)), .val (.int (2 : Int32)), .val (.int (0 : Int32)), .val (.int c0)] [(.int (c0.toInt8.toInt32)), (.int (0 : Int32)), (.ref d)]))) (fun _ kk => XS.i2b X0.here hx rfl (hb hby d7_30) rfl kk) ?_
  obtain ⟨cl2, Ar2, q2, Sz2, Nn2, Hh2, G2⟩ := id (Vd)
  obtain ⟨T3, h3, X3, e3, W3, st3⟩ := stB X0 hx hZ e0 Ar2 (j := (0 : Int32)) (inb_of Sz2 ⟨by decide, by decide⟩) (g := (mkF m 31 #[.val (.ref s'), .val (.int (0 : Int32)), .val (.ref d), .val (.int (0 : Int32)), .val (.int (2 : Int32)), .val (.int (0 : Int32)), .val (.int c0)] [(.int (c0.toInt8.toInt32)), (.int (0 : Int32)), (.ref d)])) rfl rfl (hb hby d7_31)
  have sz3 := W3.size
  have N3 := Fr.snoc X3 N0 (g : n0 ≤ d)
  have V3 : Arv Z h3 d kd .byte (2 : Int32) [(.int ((c0.toInt8.toInt32).toInt8.toInt32)), (.int (0 : Int32))] (.int (0 : Int32)) := Arv.set Ar2 q2 Sz2 Nn2 Hh2 G2 (fits_nar_byte _) W3 0 rfl (Nat.le_of_ble_eq_true rfl)
  rw [own_bb] at V3
  refine go_of (B := (T3.setTop (mkF m 32 #[.val (.ref s'), .val (.int (0 : Int32)), .val (.ref d), .val (.int (0 : Int32)), .val (.int (2 : Int32)), .val (.int (0 : Int32)), .val (.int c0)] []))) (st3) ?_
  refine go_of (B := (T3.setTop (mkF m 35 #[.val (.ref s'), .val (.int (1 : Int32)), .val (.ref d), .val (.int (0 : Int32)), .val (.int (2 : Int32)), .val (.int (0 : Int32)), .val (.int c0)] []))) (fun _ kk => XS.iinc X3.here hx rfl (hb hby d7_32) rfl rfl kk) ?_
  refine go_of (B := (T3.setTop (mkF m 38 #[.val (.ref s'), .val (.int (1 : Int32)), .val (.ref d), .val (.int (1 : Int32)), .val (.int (2 : Int32)), .val (.int (0 : Int32)), .val (.int c0)] []))) (fun _ kk => XS.iinc X3.here hx rfl (hb hby d7_35) rfl rfl kk) ?_
  refine go_of (B := (T3.setTop (mkF m 41 #[.val (.ref s'), .val (.int (1 : Int32)), .val (.ref d), .val (.int (1 : Int32)), .val (.int (2 : Int32)), .val (.int (1 : Int32)), .val (.int c0)] []))) (fun _ kk => XS.iinc X3.here hx rfl (hb hby d7_38) rfl rfl kk) ?_
  refine go_of (B := (T3.setTop (mkF m 3 #[.val (.ref s'), .val (.int (1 : Int32)), .val (.ref d), .val (.int (1 : Int32)), .val (.int (2 : Int32)), .val (.int (1 : Int32)), .val (.int c0)] []))) (fun _ kk => XS.goto X3.here hx rfl (pc0 := 41) (pc' := 3) rfl (hb hby d7_41) (by decide) (by decide) kk) ?_
  refine go_of (B := (T3.setTop (mkF m 5 #[.val (.ref s'), .val (.int (1 : Int32)), .val (.ref d), .val (.int (1 : Int32)), .val (.int (2 : Int32)), .val (.int (1 : Int32)), .val (.int c0)] [(.int (1 : Int32))]))) (fun _ kk => XS.iload X3.here hx rfl (hb hby d7_3) rfl kk) ?_
  refine go_of (B := (T3.setTop (mkF m 7 #[.val (.ref s'), .val (.int (1 : Int32)), .val (.ref d), .val (.int (1 : Int32)), .val (.int (2 : Int32)), .val (.int (1 : Int32)), .val (.int c0)] [(.int (2 : Int32)), (.int (1 : Int32))]))) (fun _ kk => XS.iload X3.here hx rfl (hb hby d7_5) rfl kk) ?_
  refine go_of (B := (T3.setTop (mkF m 10 #[.val (.ref s'), .val (.int (1 : Int32)), .val (.ref d), .val (.int (1 : Int32)), .val (.int (2 : Int32)), .val (.int (1 : Int32)), .val (.int c0)] []))) (fun _ kk => XS.icmpNo X3.here hx rfl (hb hby d7_7) rfl (tlt (by decide : (1 : Int32) < (2 : Int32))).2.1 kk) ?_
  refine go_of (B := (T3.setTop (mkF m 11 #[.val (.ref s'), .val (.int (1 : Int32)), .val (.ref d), .val (.int (1 : Int32)), .val (.int (2 : Int32)), .val (.int (1 : Int32)), .val (.int c0)] [(.ref s')]))) (fun _ kk => XS.aloadN X3.here hx rfl (hb hby d7_10) rfl rfl kk) ?_
  refine go_of (B := (T3.setTop (mkF m 12 #[.val (.ref s'), .val (.int (1 : Int32)), .val (.ref d), .val (.int (1 : Int32)), .val (.int (2 : Int32)), .val (.int (1 : Int32)), .val (.int c0)] [(.int (1 : Int32)), (.ref s')]))) (fun _ kk => XS.iloadN X3.here hx rfl (hb hby d7_11) rfl kk) ?_
  have cf_4 := (Vs.other W3 (by first | omega | exact own_ne (by omega) | exact own_le (by omega) | exact own_lt (by omega)))
  obtain ⟨cl5, Ar5, q5, Sz5, Nn5, Hh5, G5⟩ := id (cf_4)
  refine go_of (B := (T3.setTop (mkF m 13 #[.val (.ref s'), .val (.int (1 : Int32)), .val (.ref d), .val (.int (1 : Int32)), .val (.int (2 : Int32)), .val (.int (1 : Int32)), .val (.int c0)] [(.int c1)]))) (fun _ kk => X3.caload hx (j := (1 : Int32)) (v := (.int c1)) (by rw [e3]; exact Ar5.1) (State.isArrayOf_alike hZ.alike Ar5.2.1) Ar5.2.2 (inb_of Sz5 ⟨by decide, by decide⟩) (Hh5.at (inb_of Sz5 ⟨by decide, by decide⟩) rfl) (g := (mkF m 12 #[.val (.ref s'), .val (.int (1 : Int32)), .val (.ref d), .val (.int (1 : Int32)), .val (.int (2 : Int32)), .val (.int (1 : Int32)), .val (.int c0)] [(.int (1 : Int32)), (.ref s')])) rfl rfl (hb hby d7_12) _ kk) ?_
  refine go_of (B := (T3.setTop (mkF m 15 #[.val (.ref s'), .val (.int (1 : Int32)), .val (.ref d), .val (.int (1 : Int32)), .val (.int (2 : Int32)), .val (.int (1 : Int32)), .val (.int c1)] []))) (fun _ kk => XS.istore X3.here hx rfl (hb hby d7_13) rfl rfl kk) ?_
  refine go_of (B := (T3.setTop (mkF m 17 #[.val (.ref s'), .val (.int (1 : Int32)), .val (.ref d), .val (.int (1 : Int32)), .val (.int (2 : Int32)), .val (.int (1 : Int32)), .val (.int c1)] [(.int c1)]))) (fun _ kk => XS.iload X3.here hx rfl (hb hby d7_15) rfl kk) ?_
  refine go_of (B := (T3.setTop (mkF m 20 #[.val (.ref s'), .val (.int (1 : Int32)), .val (.ref d), .val (.int (1 : Int32)), .val (.int (2 : Int32)), .val (.int (1 : Int32)), .val (.int c1)] [(.int (255 : Int32)), (.int c1)]))) (fun _ kk => XS.sipush X3.here hx rfl (hb hby d7_17) kk) ?_
  refine go_of (B := (T3.setTop (mkF m 26 #[.val (.ref s'), .val (.int (1 : Int32)), .val (.ref d), .val (.int (1 : Int32)), .val (.int (2 : Int32)), .val (.int (1 : Int32)), .val (.int c1)] []))) (fun _ kk => XS.icmpYes X3.here hx rfl (pc0 := 20) (pc' := 26) rfl (hb hby d7_20) rfl (flt hc1.2).2.2.2 (by decide) (by decide) kk) ?_
  refine go_of (B := (T3.setTop (mkF m 27 #[.val (.ref s'), .val (.int (1 : Int32)), .val (.ref d), .val (.int (1 : Int32)), .val (.int (2 : Int32)), .val (.int (1 : Int32)), .val (.int c1)] [(.ref d)]))) (fun _ kk => XS.aloadN X3.here hx rfl (hb hby d7_26) rfl rfl kk) ?_
  refine go_of (B := (T3.setTop (mkF m 28 #[.val (.ref s'), .val (.int (1 : Int32)), .val (.ref d), .val (.int (1 : Int32)), .val (.int (2 : Int32)), .val (.int (1 : Int32)), .val (.int c1)] [(.int (1 : Int32)), (.ref d)]))) (fun _ kk => XS.iloadN X3.here hx rfl (hb hby d7_27) rfl kk) ?_
  refine go_of (B := (T3.setTop (mkF m 30 #[.val (.ref s'), .val (.int (1 : Int32)), .val (.ref d), .val (.int (1 : Int32)), .val (.int (2 : Int32)), .val (.int (1 : Int32)), .val (.int c1)] [(.int c1), (.int (1 : Int32)), (.ref d)]))) (fun _ kk => XS.iload X3.here hx rfl (hb hby d7_28) rfl kk) ?_
  refine go_of (B := (T3.setTop (mkF m 31 #[.val (.ref s'), .val (.int (1 : Int32)), .val (.ref d), .val (.int (1 : Int32)), .val (.int (2 : Int32)), .val (.int (1 : Int32)), .val (.int c1)] [(.int (c1.toInt8.toInt32)), (.int (1 : Int32)), (.ref d)]))) (fun _ kk => XS.i2b X3.here hx rfl (hb hby d7_30) rfl kk) ?_
  obtain ⟨cl6, Ar6, q6, Sz6, Nn6, Hh6, G6⟩ := id (V3)
  obtain ⟨T7, h7, X7, e7, W7, st7⟩ := stB X3 hx hZ e3 Ar6 (j := (1 : Int32)) (inb_of Sz6 ⟨by decide, by decide⟩) (g := (mkF m 31 #[.val (.ref s'), .val (.int (1 : Int32)), .val (.ref d), .val (.int (1 : Int32)), .val (.int (2 : Int32)), .val (.int (1 : Int32)), .val (.int c1)] [(.int (c1.toInt8.toInt32)), (.int (1 : Int32)), (.ref d)])) rfl rfl (hb hby d7_31)
  have sz7 := W7.size
  have N7 := Fr.snoc X7 N3 (g : n0 ≤ d)
  have V7 : Arv Z h7 d kd .byte (2 : Int32) [(.int (c0.toInt8.toInt32)), (.int ((c1.toInt8.toInt32).toInt8.toInt32))] (.int (0 : Int32)) := Arv.set Ar6 q6 Sz6 Nn6 Hh6 G6 (fits_nar_byte _) W7 1 rfl (Nat.le_of_ble_eq_true rfl)
  rw [own_bb] at V7
  refine go_of (B := (T7.setTop (mkF m 32 #[.val (.ref s'), .val (.int (1 : Int32)), .val (.ref d), .val (.int (1 : Int32)), .val (.int (2 : Int32)), .val (.int (1 : Int32)), .val (.int c1)] []))) (st7) ?_
  refine go_of (B := (T7.setTop (mkF m 35 #[.val (.ref s'), .val (.int (2 : Int32)), .val (.ref d), .val (.int (1 : Int32)), .val (.int (2 : Int32)), .val (.int (1 : Int32)), .val (.int c1)] []))) (fun _ kk => XS.iinc X7.here hx rfl (hb hby d7_32) rfl rfl kk) ?_
  refine go_of (B := (T7.setTop (mkF m 38 #[.val (.ref s'), .val (.int (2 : Int32)), .val (.ref d), .val (.int (2 : Int32)), .val (.int (2 : Int32)), .val (.int (1 : Int32)), .val (.int c1)] []))) (fun _ kk => XS.iinc X7.here hx rfl (hb hby d7_35) rfl rfl kk) ?_
  refine go_of (B := (T7.setTop (mkF m 41 #[.val (.ref s'), .val (.int (2 : Int32)), .val (.ref d), .val (.int (2 : Int32)), .val (.int (2 : Int32)), .val (.int (2 : Int32)), .val (.int c1)] []))) (fun _ kk => XS.iinc X7.here hx rfl (hb hby d7_38) rfl rfl kk) ?_
  refine go_of (B := (T7.setTop (mkF m 3 #[.val (.ref s'), .val (.int (2 : Int32)), .val (.ref d), .val (.int (2 : Int32)), .val (.int (2 : Int32)), .val (.int (2 : Int32)), .val (.int c1)] []))) (fun _ kk => XS.goto X7.here hx rfl (pc0 := 41) (pc' := 3) rfl (hb hby d7_41) (by decide) (by decide) kk) ?_
  refine go_of (B := (T7.setTop (mkF m 5 #[.val (.ref s'), .val (.int (2 : Int32)), .val (.ref d), .val (.int (2 : Int32)), .val (.int (2 : Int32)), .val (.int (2 : Int32)), .val (.int c1)] [(.int (2 : Int32))]))) (fun _ kk => XS.iload X7.here hx rfl (hb hby d7_3) rfl kk) ?_
  refine go_of (B := (T7.setTop (mkF m 7 #[.val (.ref s'), .val (.int (2 : Int32)), .val (.ref d), .val (.int (2 : Int32)), .val (.int (2 : Int32)), .val (.int (2 : Int32)), .val (.int c1)] [(.int (2 : Int32)), (.int (2 : Int32))]))) (fun _ kk => XS.iload X7.here hx rfl (hb hby d7_5) rfl kk) ?_
  refine go_of (B := (T7.setTop (mkF m 44 #[.val (.ref s'), .val (.int (2 : Int32)), .val (.ref d), .val (.int (2 : Int32)), .val (.int (2 : Int32)), .val (.int (2 : Int32)), .val (.int c1)] []))) (fun _ kk => XS.icmpYes X7.here hx rfl (pc0 := 7) (pc' := 44) rfl (hb hby d7_7) rfl (flt (by decide : ¬ ((2 : Int32) < (2 : Int32)))).2.1 (by decide) (by decide) kk) ?_
  refine go_of (B := (T7.setTop (mkF m 46 #[.val (.ref s'), .val (.int (2 : Int32)), .val (.ref d), .val (.int (2 : Int32)), .val (.int (2 : Int32)), .val (.int (2 : Int32)), .val (.int c1)] [(.int (2 : Int32))]))) (fun _ kk => XS.iload X7.here hx rfl (hb hby d7_44) rfl kk) ?_
  refine go_end X7 (v := some (.int (2 : Int32))) (fun h => by rw [Bd.returns] at h; cases h) Bd.notSynchronized (by decide) (by decide) (Q := (Q_str_c5_2 Z s' d c0 c1 ks kd h0 n0)) ?_ (fun fs hr => own_retI X7 hx Bd.returns (hb hby d7_46) hr)
  show (fun (v : Option Value) (h : Heap) (L : List Loc) => v = some (.int 2) ∧ Fr n0 L ∧ Keep h0 h [d] ∧ Arv Z h d kd .byte 2 [(.int (own_b8 c0)), (.int (own_b8 c1))] (.int 0)) (some (.int (2 : Int32))) T7.heap _
  rw [e7]
  exact ⟨rfl, N7, (((Keep.refl h0 [d]).wr W3 (Or.inl (List.mem_of_getElem? (i := 0) rfl))).wr W7 (Or.inl (List.mem_of_getElem? (i := 0) rfl))), V7⟩
def Q_str_c3_2 (Z : State) (s' : Addr) (c0 : Int32) (c1 : Int32) (ks : ClassId) (h0 : Heap) (n0 : Nat) (v : Option Value) (h : Heap) (L : List Loc) : Prop := ∃ (t : Addr) (k : ClassId), v = some (.ref t) ∧ Fr n0 L ∧ h0.size ≤ t ∧ Keep h0 h [] ∧ Arv Z h t k .byte 2 [(.int (own_b8 c0)), (.int (own_b8 c1))] (.int 0)
theorem ef_str_c3_2 (m : MethodId) (s' : Addr)  : entryFrame m #[(.ref s'), (.int (0 : Int32)), (.int (2 : Int32))] 6 = mkF m 0 #[.val (.ref s'), .val (.int (0 : Int32)), .val (.int (2 : Int32)), .unset, .unset, .unset] [] := by first | (simp [entryFrame, mkF, argsToLocals, Value.category]; done) | rfl
set_option maxRecDepth 65536 in
set_option maxHeartbeats 40000000 in
theorem str_c3_2 (l : Launch) (Z : State) (a0 : Array Value) (hw : ∀ d ∈ tables_1, d.before a0 Z = true) (ws : List Jvm.Cond) (s' : Addr) (c0 : Int32) (c1 : Int32) (ks : ClassId) (h0 : Heap) (n0 : Nat) (Z0 : n0 ≤ h0.size) (Vs : Arv Z h0 s' ks .char 2 [(.int c0), (.int c1)] (.int 0)) (hc0 : ¬ c0 < 0 ∧ ¬ (255 : Int32) < c0) (hc1 : ¬ c1 < 0 ∧ ¬ (255 : Int32) < c1) :
    MetFree l (⟨"java/lang/StringUTF16", "compress", "([CII)[B"⟩ : MethodName) (head1 (Jvm.Cond.code (⟨"java/lang/StringUTF16", "compress", "([CII)[B"⟩ : MethodName) jdk_52_method_16_code 6 (some (.array .byte)) :: ws) ({ frames := 1, cells := 1, slots := 2, locals := 18 } : Room)) (fun aa' U1' => aa' = #[(.ref s'), (.int (0 : Int32)), (.int (2 : Int32))] ∧ Z.Warmed39 U1'.vm ∧ U1'.heap = h0) (fun _ _ _ _ _ => True) (fun _ U1' oo' U2' => ∃ vv' LL', oo' = .returned vv' ∧ (Q_str_c3_2 Z s' c0 c1 ks h0 n0) vv' U2'.heap LL' ∧ FrameEnd U1' oo' U2' LL' ({ frames := 1, cells := 1, slots := 2, locals := 18 } : Room).cells ({ frames := 1, cells := 1, slots := 2, locals := 18 } : Room).slots) := by
  refine MetFree.of_bodySF (plainFor_of_name pn_java_lang_StringUTF16) hisR ?_
  intro p e s m args below meth c s₁ Bd hml0 hP hK
  obtain ⟨rfl, hZ, hh⟩ := hP
  have hx := Bd.exec
  have hby := Bd.bytes
  have hml : c.maxLocals = 6 := hml0
  have hown : s.vm.findClass "java/lang/StringUTF16" = some m.cls := findClass_of_methodNamed Bd.named
  have hnm := (name_of_methodNamed Bd.named Bd.method).1
  have X0 : Stand p l e ({ frames := 1, cells := 1, slots := 2, locals := 18 } : Room) s m #[(.ref s'), (.int (0 : Int32)), (.int (2 : Int32))] below meth c s₁ [] 0 0 := Stand.of_body Bd
  have e0 : s₁.heap = h0 := by rw [← hh, Bd.state]; rfl
  have N0 := Fr.nil n0
  have lts := own_nlt (Vs.lt)
  refine go_of (A := s₁.setTop (entryFrame m #[(.ref s'), (.int (0 : Int32)), (.int (2 : Int32))] 6)) (B := s₁.setTop (mkF m 0 #[.val (.ref s'), .val (.int (0 : Int32)), .val (.int (2 : Int32)), .unset, .unset, .unset] [])) (fun _ kk' => castTop (ef_str_c3_2 m s') kk') ?_
  refine go_of (B := (s₁.setTop (mkF m 1 #[.val (.ref s'), .val (.int (0 : Int32)), .val (.int (2 : Int32)), .unset, .unset, .unset] [(.int (2 : Int32))]))) (fun _ kk => XS.iloadN X0.here hx rfl (hb hby d6_0) rfl kk) ?_
  obtain ⟨T1, h1, k1, X1, e1, E1, A1, st1⟩ := newP X0 hx hZ (hw _ (List.mem_of_getElem? (i := 29) rfl)) e0 (g := (mkF m 1 #[.val (.ref s'), .val (.int (0 : Int32)), .val (.int (2 : Int32)), .unset, .unset, .unset] [(.int (2 : Int32))])) rfl (hb hby d6_1) rfl (by decide) (cap := 2) (by decide) (by decide) (by decide) (by decide)
  obtain ⟨b1, g1⟩ : ∃ z, z = h0.size := ⟨_, rfl⟩
  rw [← g1] at A1 st1
  have hi1 := own_nlt A1.lt
  have sz1 := E1.1
  have V1 : Arv Z h1 b1 k1 .byte (2 : Int32) [(.int (0 : Int32)), (.int (0 : Int32))] (.int (0 : Int32)) := (Arv.new A1 (by decide)).pad (pad_rep [] (.int (0 : Int32)) 2)
  refine go_of (B := (T1.setTop (mkF m 3 #[.val (.ref s'), .val (.int (0 : Int32)), .val (.int (2 : Int32)), .unset, .unset, .unset] [(.ref b1)]))) (st1) ?_
  refine go_of (B := (T1.setTop (mkF m 4 #[.val (.ref s'), .val (.int (0 : Int32)), .val (.int (2 : Int32)), .val (.ref b1), .unset, .unset] []))) (fun _ kk => XS.astoreN X1.here hx rfl (hb hby d6_3) rfl rfl rfl kk) ?_
  refine go_of (B := (T1.setTop (mkF m 5 #[.val (.ref s'), .val (.int (0 : Int32)), .val (.int (2 : Int32)), .val (.ref b1), .unset, .unset] [(.ref s')]))) (fun _ kk => XS.aloadN X1.here hx rfl (hb hby d6_4) rfl rfl kk) ?_
  refine go_of (B := (T1.setTop (mkF m 6 #[.val (.ref s'), .val (.int (0 : Int32)), .val (.int (2 : Int32)), .val (.ref b1), .unset, .unset] [(.int (0 : Int32)), (.ref s')]))) (fun _ kk => XS.iloadN X1.here hx rfl (hb hby d6_5) rfl kk) ?_
  refine go_of (B := (T1.setTop (mkF m 7 #[.val (.ref s'), .val (.int (0 : Int32)), .val (.int (2 : Int32)), .val (.ref b1), .unset, .unset] [(.ref b1), (.int (0 : Int32)), (.ref s')]))) (fun _ kk => XS.aloadN X1.here hx rfl (hb hby d6_6) rfl rfl kk) ?_
  refine go_of (B := (T1.setTop (mkF m 8 #[.val (.ref s'), .val (.int (0 : Int32)), .val (.int (2 : Int32)), .val (.ref b1), .unset, .unset] [(.int (0 : Int32)), (.ref b1), (.int (0 : Int32)), (.ref s')]))) (fun _ kk => XS.iconst X1.here hx rfl (hb hby d6_7) kk) ?_
  refine go_of (B := (T1.setTop (mkF m 9 #[.val (.ref s'), .val (.int (0 : Int32)), .val (.int (2 : Int32)), .val (.ref b1), .unset, .unset] [(.int (2 : Int32)), (.int (0 : Int32)), (.ref b1), (.int (0 : Int32)), (.ref s')]))) (fun _ kk => XS.iloadN X1.here hx rfl (hb hby d6_8) rfl kk) ?_
  have cf_2 := (Vs.ext E1)
  obtain ⟨_, _, ⟨T3, L3, k3, n3⟩, -, X3, ⟨Lc3, hQ3, l3, y3, z3⟩, st3⟩ := Jvm.LawKit.callS X1 hx (y := (⟨"java/lang/StringUTF16", "compress", "([CI[BII)I"⟩ : MethodName)) hown (mvT hZ (hw _ (List.mem_of_getElem? (i := 30) rfl))) (mvT hZ (hw _ (List.mem_of_getElem? (i := 31) rfl))) (mvT hZ (hw _ (List.mem_of_getElem? (i := 27) rfl))) (mvT hZ (hw _ (List.mem_of_getElem? (i := 32) rfl))) (by decide) (backOf (W := 0) (str_c5_2 l Z a0 hw [] s' b1 c0 c1 ks k1 h1 n0 (by first | omega | exact own_ne (by omega) | exact own_le (by omega) | exact own_lt (by omega)) cf_2 V1 (by first | omega | exact own_ne (by omega) | exact own_le (by omega) | exact own_lt (by omega)) (by first | omega | exact own_ne (by omega) | exact own_le (by omega) | exact own_lt (by omega)) hc0 hc1) hZ (hw _ (List.mem_of_getElem? (i := 32) rfl)) (hw _ (List.mem_of_getElem? (i := 27) rfl)) (by decide) (by decide)) (g := (mkF m 9 #[.val (.ref s'), .val (.int (0 : Int32)), .val (.int (2 : Int32)), .val (.ref b1), .unset, .unset] [(.int (2 : Int32)), (.int (0 : Int32)), (.ref b1), (.int (0 : Int32)), (.ref s')])) rfl (by rw [hml]; rfl) (argsL := [(.ref s'), (.int (0 : Int32)), (.ref b1), (.int (0 : Int32)), (.int (2 : Int32))]) (rest := []) (lenOf pd___CI_BII_I rfl) rfl (by show 2 * 0 + _ ≤ _; exact Nat.le_of_eq rfl) (hb hby d6_9) (fun _ _ => ⟨rfl, e1, (by decide : 1 + 0 ≤ _), (by decide : 2 + 0 ≤ _)⟩)
  dsimp only [Pt.U, Pt.locs, Pt.cells, Pt.slots] at X3 l3 y3 z3 st3 hQ3
  subst l3 y3 z3
  obtain ⟨rfl, N3q, K3, V3⟩ := hQ3
  have N3 := Fr.app N0 N3q
  have sz3 := K3.1
  refine go_of (B := (T3.setTop (mkF m 12 #[.val (.ref s'), .val (.int (0 : Int32)), .val (.int (2 : Int32)), .val (.ref b1), .unset, .unset] [(.int (2 : Int32))]))) (st3) ?_
  refine go_of (B := (T3.setTop (mkF m 14 #[.val (.ref s'), .val (.int (0 : Int32)), .val (.int (2 : Int32)), .val (.ref b1), .val (.int (2 : Int32)), .unset] []))) (fun _ kk => XS.istore X3.here hx rfl (hb hby d6_12) rfl rfl kk) ?_
  refine go_of (B := (T3.setTop (mkF m 16 #[.val (.ref s'), .val (.int (0 : Int32)), .val (.int (2 : Int32)), .val (.ref b1), .val (.int (2 : Int32)), .unset] [(.int (2 : Int32))]))) (fun _ kk => XS.iload X3.here hx rfl (hb hby d6_14) rfl kk) ?_
  refine go_of (B := (T3.setTop (mkF m 17 #[.val (.ref s'), .val (.int (0 : Int32)), .val (.int (2 : Int32)), .val (.ref b1), .val (.int (2 : Int32)), .unset] [(.int (2 : Int32)), (.int (2 : Int32))]))) (fun _ kk => XS.iloadN X3.here hx rfl (hb hby d6_16) rfl kk) ?_
  refine go_of (B := (T3.setTop (mkF m 57 #[.val (.ref s'), .val (.int (0 : Int32)), .val (.int (2 : Int32)), .val (.ref b1), .val (.int (2 : Int32)), .unset] []))) (fun _ kk => XS.icmpYes X3.here hx rfl (pc0 := 17) (pc' := 57) rfl (hb hby d6_17) rfl (teq (by decide : (2 : Int32) = (2 : Int32))).1 (by decide) (by decide) kk) ?_
  refine go_of (B := (T3.setTop (mkF m 58 #[.val (.ref s'), .val (.int (0 : Int32)), .val (.int (2 : Int32)), .val (.ref b1), .val (.int (2 : Int32)), .unset] [(.ref b1)]))) (fun _ kk => XS.aloadN X3.here hx rfl (hb hby d6_57) rfl rfl kk) ?_
  refine go_end X3 (v := some (.ref b1)) (fun h => by rw [Bd.returns] at h; cases h) Bd.notSynchronized (by decide) (by decide) (Q := (Q_str_c3_2 Z s' c0 c1 ks h0 n0)) ?_ (fun fs hr => own_retA X3 hx Bd.returns rfl rfl (hb hby d6_58) hr)
  show (fun (v : Option Value) (h : Heap) (L : List Loc) => ∃ (t : Addr) (k : ClassId), v = some (.ref t) ∧ Fr n0 L ∧ h0.size ≤ t ∧ Keep h0 h [] ∧ Arv Z h t k .byte 2 [(.int (own_b8 c0)), (.int (own_b8 c1))] (.int 0)) (some (.ref b1)) T3.heap _
  exact ⟨b1, k1, rfl, N3, by omega, (((Keep.refl h0 []).ext E1).trans K3 (allS (Or.inr (by first | omega | exact own_ne (by omega) | exact own_le (by omega) | exact own_lt (by omega))) all0)), V3⟩
def Q_str_cf_2 (Z : State) (t : Addr) (k : ClassId) (vs : List Value) (h0 : Heap) (n0 : Nat) (v : Option Value) (h : Heap) (L : List Loc) : Prop := v = some (.int 0) ∧ Fr n0 L ∧ h = h0
theorem ef_str_cf_2 (m : MethodId) (t : Addr)  : entryFrame m #[(.ref t), (.int (2 : Int32))] 2 = mkF m 0 #[.val (.ref t), .val (.int (2 : Int32))] [] := by first | (simp [entryFrame, mkF, argsToLocals, Value.category]; done) | rfl
set_option maxRecDepth 65536 in
set_option maxHeartbeats 40000000 in
theorem str_cf_2 (l : Launch) (Z : State) (a0 : Array Value) (hw : ∀ d ∈ tables_1, d.before a0 Z = true) (ws : List Jvm.Cond) (t : Addr) (k : ClassId) (vs : List Value) (h0 : Heap) (n0 : Nat) (Z0 : n0 ≤ h0.size) (V : Arv Z h0 t k .byte 2 vs (.int 0)) :
    MetFree l (⟨"java/lang/StringUTF16", "coderFromArrayLen", "([BI)B"⟩ : MethodName) (head1 (Jvm.Cond.code (⟨"java/lang/StringUTF16", "coderFromArrayLen", "([BI)B"⟩ : MethodName) jdk_52_method_15_code 2 (some .byte) :: ws) ({ frames := 0, cells := 0, slots := 0, locals := 0 } : Room)) (fun aa' U1' => aa' = #[(.ref t), (.int (2 : Int32))] ∧ Z.Warmed39 U1'.vm ∧ U1'.heap = h0) (fun _ _ _ _ _ => True) (fun _ U1' oo' U2' => ∃ vv' LL', oo' = .returned vv' ∧ (Q_str_cf_2 Z t k vs h0 n0) vv' U2'.heap LL' ∧ FrameEnd U1' oo' U2' LL' ({ frames := 0, cells := 0, slots := 0, locals := 0 } : Room).cells ({ frames := 0, cells := 0, slots := 0, locals := 0 } : Room).slots) := by
  refine MetFree.of_bodySF (plainFor_of_name pn_java_lang_StringUTF16) hisR ?_
  intro p e s m args below meth c s₁ Bd hml0 hP hK
  obtain ⟨rfl, hZ, hh⟩ := hP
  have hx := Bd.exec
  have hby := Bd.bytes
  have hml : c.maxLocals = 2 := hml0
  have hown : s.vm.findClass "java/lang/StringUTF16" = some m.cls := findClass_of_methodNamed Bd.named
  have hnm := (name_of_methodNamed Bd.named Bd.method).1
  have X0 : Stand p l e ({ frames := 0, cells := 0, slots := 0, locals := 0 } : Room) s m #[(.ref t), (.int (2 : Int32))] below meth c s₁ [] 0 0 := Stand.of_body Bd
  have e0 : s₁.heap = h0 := by rw [← hh, Bd.state]; rfl
  have N0 := Fr.nil n0
  refine go_of (A := s₁.setTop (entryFrame m #[(.ref t), (.int (2 : Int32))] 2)) (B := s₁.setTop (mkF m 0 #[.val (.ref t), .val (.int (2 : Int32))] [])) (fun _ kk' => castTop (ef_str_cf_2 m t) kk') ?_
  refine go_of (B := (s₁.setTop (mkF m 1 #[.val (.ref t), .val (.int (2 : Int32))] [(.int (2 : Int32))]))) (fun _ kk => XS.iloadN X0.here hx rfl (hb hby d8_0) rfl kk) ?_
  refine go_of (B := (s₁.setTop (mkF m 2 #[.val (.ref t), .val (.int (2 : Int32))] [(.ref t), (.int (2 : Int32))]))) (fun _ kk => XS.aloadN X0.here hx rfl (hb hby d8_1) rfl rfl kk) ?_
  obtain ⟨cl1, Ar1, q1, Sz1, Nn1, Hh1, G1⟩ := id (V)
  have ln1 := len_of Sz1 Nn1
  refine go_of (B := (s₁.setTop (mkF m 3 #[.val (.ref t), .val (.int (2 : Int32))] [(.int (2 : Int32)), (.int (2 : Int32))]))) (fun _ kk => X0.arraylength hx (by rw [e0]; exact Ar1.1) (State.isArrayOf_alike hZ.alike Ar1.2.1) (g := (mkF m 2 #[.val (.ref t), .val (.int (2 : Int32))] [(.ref t), (.int (2 : Int32))])) rfl rfl (hb hby d8_2) _ (by rw [ln1]; exact kk)) ?_
  refine go_of (B := (s₁.setTop (mkF m 4 #[.val (.ref t), .val (.int (2 : Int32))] [(.int (0 : Int32))]))) (fun _ kk => XS.isub X0.here hx rfl (hb hby d8_3) rfl kk) ?_
  refine go_of (B := (s₁.setTop (mkF m 6 #[.val (.ref t), .val (.int (2 : Int32))] [(.int (31 : Int32)), (.int (0 : Int32))]))) (fun _ kk => XS.bipush X0.here hx rfl (hb hby d8_4) kk) ?_
  refine go_of (B := (s₁.setTop (mkF m 7 #[.val (.ref t), .val (.int (2 : Int32))] [(.int (0 : Int32))]))) (fun _ kk => XS.iushr X0.here hx rfl (hb hby d8_6) rfl kk) ?_
  refine go_of (B := (s₁.setTop (mkF m 8 #[.val (.ref t), .val (.int (2 : Int32))] [(.int (0 : Int32))]))) (fun _ kk => XS.i2b X0.here hx rfl (hb hby d8_7) rfl kk) ?_
  refine go_end X0 (v := some (.int (nar .byte (0 : Int32)))) (fun h => by rw [Bd.returns] at h; cases h) Bd.notSynchronized (by decide) (by decide) (Q := (Q_str_cf_2 Z t k vs h0 n0)) ?_ (fun fs hr => retN X0 hx (t := .byte) Bd.returns (by simp) (hb hby d8_8) hr)
  show (fun (v : Option Value) (h : Heap) (L : List Loc) => v = some (.int 0) ∧ Fr n0 L ∧ h = h0) (some (.int (nar .byte (0 : Int32)))) s₁.heap _
  rw [e0]
  exact ⟨rfl, N0, rfl⟩
def Q_str_i4_2 (Z : State) (a : Addr) (s' : Addr) (c0 : Int32) (c1 : Int32) (ks : ClassId) (gC : Int32) (u : Value) (u2 : Value) (h0 : Heap) (n0 : Nat) (v : Option Value) (h : Heap) (L : List Loc) : Prop := v = none ∧ Fr n0 L ∧ Keep h0 h [a] ∧ Str Z h a 2 [c0, c1]
theorem ef_str_i4_2 (m : MethodId) (a : Addr) (s' : Addr)  : entryFrame m #[(.ref a), (.ref s'), (.int (0 : Int32)), (.int (2 : Int32)), .null] 6 = mkF m 0 #[.val (.ref a), .val (.ref s'), .val (.int (0 : Int32)), .val (.int (2 : Int32)), .val .null, .unset] [] := by first | (simp [entryFrame, mkF, argsToLocals, Value.category]; done) | rfl
set_option maxRecDepth 65536 in
set_option maxHeartbeats 40000000 in
theorem str_i4_2 (l : Launch) (Z : State) (a0 : Array Value) (hw : ∀ d ∈ tables_1, d.before a0 Z = true) (ws : List Jvm.Cond) (a : Addr) (s' : Addr) (c0 : Int32) (c1 : Int32) (ks : ClassId) (gC : Int32) (u : Value) (u2 : Value) (h0 : Heap) (n0 : Nat) (Z0 : n0 ≤ h0.size) (O : Old Z n0 h0) (SC : Sta Z Z.heap "java/lang/String" "COMPACT_STRINGS" "Z" (.int gC)) (hgC : ¬ gC = (0 : Int32)) (E : Exa Z h0 a "java/lang/String") (F : Fld Z h0 a "java/lang/String" "value" "[B" u) (F2 : Fld Z h0 a "java/lang/String" "coder" "B" u2) (g : n0 ≤ a) (Vs : Arv Z h0 s' ks .char 2 [(.int c0), (.int c1)] (.int 0)) (hc0 : ¬ c0 < 0 ∧ ¬ (255 : Int32) < c0) (hc1 : ¬ c1 < 0 ∧ ¬ (255 : Int32) < c1) :
    MetFree l (⟨"java/lang/String", "<init>", "([CIILjava/lang/Void;)V"⟩ : MethodName) (head1 (Jvm.Cond.code (⟨"java/lang/String", "<init>", "([CIILjava/lang/Void;)V"⟩ : MethodName) jdk_42_method_149_code 6 none :: ws) ({ frames := 2, cells := 1, slots := 2, locals := 35 } : Room)) (fun aa' U1' => aa' = #[(.ref a), (.ref s'), (.int (0 : Int32)), (.int (2 : Int32)), .null] ∧ Z.Warmed39 U1'.vm ∧ U1'.heap = h0) (fun _ _ _ _ _ => True) (fun _ U1' oo' U2' => ∃ vv' LL', oo' = .returned vv' ∧ (Q_str_i4_2 Z a s' c0 c1 ks gC u u2 h0 n0) vv' U2'.heap LL' ∧ FrameEnd U1' oo' U2' LL' ({ frames := 2, cells := 1, slots := 2, locals := 35 } : Room).cells ({ frames := 2, cells := 1, slots := 2, locals := 35 } : Room).slots) := by
  refine MetFree.of_bodySF (plainFor_of_name pn_java_lang_String) hisR ?_
  intro p e s m args below meth c s₁ Bd hml0 hP hK
  obtain ⟨rfl, hZ, hh⟩ := hP
  have hx := Bd.exec
  have hby := Bd.bytes
  have hml : c.maxLocals = 6 := hml0
  have hown : s.vm.findClass "java/lang/String" = some m.cls := findClass_of_methodNamed Bd.named
  have hnm := (name_of_methodNamed Bd.named Bd.method).1
  have X0 : Stand p l e ({ frames := 2, cells := 1, slots := 2, locals := 35 } : Room) s m #[(.ref a), (.ref s'), (.int (0 : Int32)), (.int (2 : Int32)), .null] below meth c s₁ [] 0 0 := Stand.of_body Bd
  have e0 : s₁.heap = h0 := by rw [← hh, Bd.state]; rfl
  have N0 := Fr.nil n0
  have lta := own_nlt (E.lt)
  have lts := own_nlt (Vs.lt)
  refine go_of (A := s₁.setTop (entryFrame m #[(.ref a), (.ref s'), (.int (0 : Int32)), (.int (2 : Int32)), .null] 6)) (B := s₁.setTop (mkF m 0 #[.val (.ref a), .val (.ref s'), .val (.int (0 : Int32)), .val (.int (2 : Int32)), .val .null, .unset] [])) (fun _ kk' => castTop (ef_str_i4_2 m a s') kk') ?_
  refine go_of (B := (s₁.setTop (mkF m 1 #[.val (.ref a), .val (.ref s'), .val (.int (0 : Int32)), .val (.int (2 : Int32)), .val .null, .unset] [(.ref a)]))) (fun _ kk => XS.aloadN X0.here hx rfl (hb hby d4_0) rfl rfl kk) ?_
  obtain ⟨T1, X1, e1, st1⟩ := initO X0 hx hZ hown (hw _ (List.mem_of_getElem? (i := 21) rfl)) (hw _ (List.mem_of_getElem? (i := 22) rfl)) (hw _ (List.mem_of_getElem? (i := 23) rfl)) e0 (g := (mkF m 1 #[.val (.ref a), .val (.ref s'), .val (.int (0 : Int32)), .val (.int (2 : Int32)), .val .null, .unset] [(.ref a)])) rfl (by rw [hml]; rfl) rfl (hb hby d4_1) (by decide) (W := 0) (by show 2 * 0 + _ ≤ _; exact Nat.le_of_eq rfl) (by decide)
  refine go_of (B := (T1.setTop (mkF m 4 #[.val (.ref a), .val (.ref s'), .val (.int (0 : Int32)), .val (.int (2 : Int32)), .val .null, .unset] []))) (st1) ?_
  refine go_of (B := (T1.setTop (mkF m 5 #[.val (.ref a), .val (.ref s'), .val (.int (0 : Int32)), .val (.int (2 : Int32)), .val .null, .unset] [(.int (2 : Int32))]))) (fun _ kk => XS.iloadN X1.here hx rfl (hb hby d4_4) rfl kk) ?_
  refine go_of (B := (T1.setTop (mkF m 27 #[.val (.ref a), .val (.ref s'), .val (.int (0 : Int32)), .val (.int (2 : Int32)), .val .null, .unset] []))) (fun _ kk => XS.ifYes X1.here hx rfl (pc0 := 5) (pc' := 27) rfl (hb hby d4_5) rfl ((if0 _ _).trans (feq (by decide : ¬ ((2 : Int32) = (0 : Int32)))).2) (by decide) (by decide) kk) ?_
  obtain ⟨T2, X2, e2, st2⟩ := getS2 X1 hx hZ hown (host := "") (Or.inl (hw _ (List.mem_of_getElem? (i := 24) rfl))) Via.refl e1 (SC.ext O.2) (g := (mkF m 27 #[.val (.ref a), .val (.ref s'), .val (.int (0 : Int32)), .val (.int (2 : Int32)), .val .null, .unset] [])) rfl (hb hby d4_27)
  refine go_of (B := (T2.setTop (mkF m 30 #[.val (.ref a), .val (.ref s'), .val (.int (0 : Int32)), .val (.int (2 : Int32)), .val .null, .unset] [(.int gC)]))) (st2) ?_
  refine go_of (B := (T2.setTop (mkF m 33 #[.val (.ref a), .val (.ref s'), .val (.int (0 : Int32)), .val (.int (2 : Int32)), .val .null, .unset] []))) (fun _ kk => XS.ifNo X2.here hx rfl (hb hby d4_30) rfl ((if0 _ _).trans (feq hgC).1) kk) ?_
  refine go_of (B := (T2.setTop (mkF m 34 #[.val (.ref a), .val (.ref s'), .val (.int (0 : Int32)), .val (.int (2 : Int32)), .val .null, .unset] [(.ref s')]))) (fun _ kk => XS.aloadN X2.here hx rfl (hb hby d4_33) rfl rfl kk) ?_
  refine go_of (B := (T2.setTop (mkF m 35 #[.val (.ref a), .val (.ref s'), .val (.int (0 : Int32)), .val (.int (2 : Int32)), .val .null, .unset] [(.int (0 : Int32)), (.ref s')]))) (fun _ kk => XS.iloadN X2.here hx rfl (hb hby d4_34) rfl kk) ?_
  refine go_of (B := (T2.setTop (mkF m 36 #[.val (.ref a), .val (.ref s'), .val (.int (0 : Int32)), .val (.int (2 : Int32)), .val .null, .unset] [(.int (2 : Int32)), (.int (0 : Int32)), (.ref s')]))) (fun _ kk => XS.iloadN X2.here hx rfl (hb hby d4_35) rfl kk) ?_
  obtain ⟨_, _, ⟨T3, L3, k3, n3⟩, -, X3, ⟨Lc3, hQ3, l3, y3, z3⟩, st3⟩ := Jvm.LawKit.callS X2 hx (y := (⟨"java/lang/StringUTF16", "compress", "([CII)[B"⟩ : MethodName)) hown (mvT hZ (hw _ (List.mem_of_getElem? (i := 25) rfl))) (mvT hZ (hw _ (List.mem_of_getElem? (i := 26) rfl))) (mvT hZ (hw _ (List.mem_of_getElem? (i := 27) rfl))) (mvT hZ (hw _ (List.mem_of_getElem? (i := 28) rfl))) (by decide) (backOf (W := 0) (str_c3_2 l Z a0 hw [] s' c0 c1 ks h0 n0 (by first | omega | exact own_ne (by omega) | exact own_le (by omega) | exact own_lt (by omega)) Vs hc0 hc1) hZ (hw _ (List.mem_of_getElem? (i := 28) rfl)) (hw _ (List.mem_of_getElem? (i := 27) rfl)) (by decide) (by decide)) (g := (mkF m 36 #[.val (.ref a), .val (.ref s'), .val (.int (0 : Int32)), .val (.int (2 : Int32)), .val .null, .unset] [(.int (2 : Int32)), (.int (0 : Int32)), (.ref s')])) rfl (by rw [hml]; rfl) (argsL := [(.ref s'), (.int (0 : Int32)), (.int (2 : Int32))]) (rest := []) (lenOf pd___CII__B rfl) rfl (by show 2 * 0 + _ ≤ _; exact Nat.le_of_eq rfl) (hb hby d4_36) (fun _ _ => ⟨rfl, e2, (by decide : 0 + 1 ≤ _), (by decide : 0 + 2 ≤ _)⟩)
  dsimp only [Pt.U, Pt.locs, Pt.cells, Pt.slots] at X3 l3 y3 z3 st3 hQ3
  subst l3 y3 z3
  obtain ⟨b3, k3, rfl, N3q, lo3, K3, V3⟩ := hQ3
  have lo3 := own_nle lo3
  have N3 := Fr.app N0 N3q
  have hi3 := own_nlt (V3.lt)
  have sz3 := K3.1
  refine go_of (B := (T3.setTop (mkF m 39 #[.val (.ref a), .val (.ref s'), .val (.int (0 : Int32)), .val (.int (2 : Int32)), .val .null, .unset] [(.ref b3)]))) (st3) ?_
  refine go_of (B := (T3.setTop (mkF m 41 #[.val (.ref a), .val (.ref s'), .val (.int (0 : Int32)), .val (.int (2 : Int32)), .val .null, .val (.ref b3)] []))) (fun _ kk => XS.astore X3.here hx rfl (hb hby d4_39) rfl rfl rfl kk) ?_
  refine go_of (B := (T3.setTop (mkF m 42 #[.val (.ref a), .val (.ref s'), .val (.int (0 : Int32)), .val (.int (2 : Int32)), .val .null, .val (.ref b3)] [(.ref a)]))) (fun _ kk => XS.aloadN X3.here hx rfl (hb hby d4_41) rfl rfl kk) ?_
  refine go_of (B := (T3.setTop (mkF m 44 #[.val (.ref a), .val (.ref s'), .val (.int (0 : Int32)), .val (.int (2 : Int32)), .val .null, .val (.ref b3)] [(.ref b3), (.ref a)]))) (fun _ kk => XS.aload X3.here hx rfl (hb hby d4_42) rfl rfl kk) ?_
  refine go_of (B := (T3.setTop (mkF m 45 #[.val (.ref a), .val (.ref s'), .val (.int (0 : Int32)), .val (.int (2 : Int32)), .val .null, .val (.ref b3)] [(.int (2 : Int32)), (.ref b3), (.ref a)]))) (fun _ kk => XS.iloadN X3.here hx rfl (hb hby d4_44) rfl kk) ?_
  obtain ⟨_, _, ⟨T4, L4, k4, n4⟩, -, X4, ⟨Lc4, hQ4, l4, y4, z4⟩, st4⟩ := Jvm.LawKit.callS X3 hx (y := (⟨"java/lang/StringUTF16", "coderFromArrayLen", "([BI)B"⟩ : MethodName)) hown (mvT hZ (hw _ (List.mem_of_getElem? (i := 33) rfl))) (mvT hZ (hw _ (List.mem_of_getElem? (i := 34) rfl))) (mvT hZ (hw _ (List.mem_of_getElem? (i := 27) rfl))) (mvT hZ (hw _ (List.mem_of_getElem? (i := 35) rfl))) (by decide) (backOf (W := 1) (str_cf_2 l Z a0 hw [] b3 k3 _ T3.heap n0 (by first | omega | exact own_ne (by omega) | exact own_le (by omega) | exact own_lt (by omega)) V3) hZ (hw _ (List.mem_of_getElem? (i := 35) rfl)) (hw _ (List.mem_of_getElem? (i := 27) rfl)) (by decide) (by decide)) (g := (mkF m 45 #[.val (.ref a), .val (.ref s'), .val (.int (0 : Int32)), .val (.int (2 : Int32)), .val .null, .val (.ref b3)] [(.int (2 : Int32)), (.ref b3), (.ref a)])) rfl (by rw [hml]; rfl) (argsL := [(.ref b3), (.int (2 : Int32))]) (rest := [(.ref a)]) (lenOf pd___BI_B rfl) rfl (by show 2 * 0 + _ ≤ _; exact Nat.le_of_eq rfl) (hb hby d4_45) (fun _ _ => ⟨rfl, rfl, (by decide : 1 + 0 ≤ _), (by decide : 2 + 0 ≤ _)⟩)
  dsimp only [Pt.U, Pt.locs, Pt.cells, Pt.slots] at X4 l4 y4 z4 st4 hQ4
  subst l4 y4 z4
  obtain ⟨rfl, N4q, e4⟩ := hQ4
  have N4 := Fr.app N3 N4q
  refine go_of (B := (T4.setTop (mkF m 48 #[.val (.ref a), .val (.ref s'), .val (.int (0 : Int32)), .val (.int (2 : Int32)), .val .null, .val (.ref b3)] [(.int (0 : Int32)), (.ref a)]))) (st4) ?_
  have cf_5 := (E.keep K3)
  have cf_6 := (F2.keep K3 nin0)
  obtain ⟨T7, h7, X7, e7, W7, st7⟩ := putFN X4 hx hZ hown (hw _ (List.mem_of_getElem? (i := 36) rfl)) Via.refl e4 cf_6 cf_5 (Or.inr ⟨(hw _ (List.mem_of_getElem? (i := 37) rfl)), rfl, hnm⟩) (hw _ (List.mem_of_getElem? (i := 11) rfl)) (ty := .byte) (v' := (.int (nar .byte (0 : Int32)))) (by decide) rfl (fits_nar_byte _) (g := (mkF m 48 #[.val (.ref a), .val (.ref s'), .val (.int (0 : Int32)), .val (.int (2 : Int32)), .val .null, .val (.ref b3)] [(.int (0 : Int32)), (.ref a)])) rfl rfl (hb hby d4_48)
  have sz7 := W7.size
  have Fw7 := cf_6.same W7
  have N7 := Fr.snoc X7 N4 (g : n0 ≤ a)
  refine go_of (B := (T7.setTop (mkF m 51 #[.val (.ref a), .val (.ref s'), .val (.int (0 : Int32)), .val (.int (2 : Int32)), .val .null, .val (.ref b3)] []))) (st7) ?_
  refine go_of (B := (T7.setTop (mkF m 52 #[.val (.ref a), .val (.ref s'), .val (.int (0 : Int32)), .val (.int (2 : Int32)), .val .null, .val (.ref b3)] [(.ref a)]))) (fun _ kk => XS.aloadN X7.here hx rfl (hb hby d4_51) rfl rfl kk) ?_
  refine go_of (B := (T7.setTop (mkF m 54 #[.val (.ref a), .val (.ref s'), .val (.int (0 : Int32)), .val (.int (2 : Int32)), .val .null, .val (.ref b3)] [(.ref b3), (.ref a)]))) (fun _ kk => XS.aload X7.here hx rfl (hb hby d4_52) rfl rfl kk) ?_
  have cf_8 := (cf_5.wr W7)
  have cf_9 := ((F.keep K3 nin0).other W7 (Or.inr (slot_ne (Or.inr (hw _ (List.mem_of_getElem? (i := 39) rfl))) (Or.inr (hw _ (List.mem_of_getElem? (i := 37) rfl))) (by decide) (t := (.array .byte)) (t' := .byte) (by decide) (by decide))))
  obtain ⟨T10, h10, X10, e10, W10, st10⟩ := putF X7 hx hZ hown (host := "") (Or.inl (hw _ (List.mem_of_getElem? (i := 38) rfl))) Via.refl e7 cf_9 cf_8 (Or.inr ⟨(hw _ (List.mem_of_getElem? (i := 39) rfl)), rfl, hnm⟩) (hw _ (List.mem_of_getElem? (i := 11) rfl)) (ty := (.array .byte)) (by decide) rfl rfl (g := (mkF m 54 #[.val (.ref a), .val (.ref s'), .val (.int (0 : Int32)), .val (.int (2 : Int32)), .val .null, .val (.ref b3)] [(.ref b3), (.ref a)])) rfl rfl (hb hby d4_54)
  have sz10 := W10.size
  have Fw10 := cf_9.same W10
  have N10 := Fr.snoc X10 N7 (g : n0 ≤ a)
  refine go_of (B := (T10.setTop (mkF m 57 #[.val (.ref a), .val (.ref s'), .val (.int (0 : Int32)), .val (.int (2 : Int32)), .val .null, .val (.ref b3)] []))) (st10) ?_
  have cf_11 := ((V3.other W7 (by first | omega | exact own_ne (by omega) | exact own_le (by omega) | exact own_lt (by omega))).other W10 (by first | omega | exact own_ne (by omega) | exact own_le (by omega) | exact own_lt (by omega)))
  have cf_12 := (Fw7.other W10 (Or.inr (slot_ne (Or.inr (hw _ (List.mem_of_getElem? (i := 37) rfl))) (Or.inr (hw _ (List.mem_of_getElem? (i := 39) rfl))) (by decide) (t := .byte) (t' := (.array .byte)) (by decide) (by decide))))
  have cf_13 := (cf_8.wr W10)
  refine go_end X10 (v := none) (fun _ => rfl) Bd.notSynchronized (by decide) (by decide) (Q := (Q_str_i4_2 Z a s' c0 c1 ks gC u u2 h0 n0)) ?_ (fun fs hr => X10.returnOut hx Bd.returns (hb hby d4_57) hr)
  show (fun (v : Option Value) (h : Heap) (L : List Loc) => v = none ∧ Fr n0 L ∧ Keep h0 h [a] ∧ Str Z h a 2 [c0, c1]) (none) T10.heap _
  rw [e10]
  exact ⟨rfl, N10, ((((Keep.refl h0 [a]).trans K3 all0).wr W7 (Or.inl (List.mem_of_getElem? (i := 0) rfl))).wr W10 (Or.inl (List.mem_of_getElem? (i := 0) rfl))), ⟨b3, k3, cf_13, cf_12, Fw10, cf_11, (own_allc hc0 (own_allc hc1 (fun _ q => nomatch q))), by omega⟩⟩
def Q_str_i1_2 (Z : State) (a : Addr) (s' : Addr) (c0 : Int32) (c1 : Int32) (ks : ClassId) (gC : Int32) (u : Value) (u2 : Value) (h0 : Heap) (n0 : Nat) (v : Option Value) (h : Heap) (L : List Loc) : Prop := v = none ∧ Fr n0 L ∧ Keep h0 h [a] ∧ Str Z h a 2 [c0, c1]
theorem ef_str_i1_2 (m : MethodId) (a : Addr) (s' : Addr)  : entryFrame m #[(.ref a), (.ref s')] 2 = mkF m 0 #[.val (.ref a), .val (.ref s')] [] := by first | (simp [entryFrame, mkF, argsToLocals, Value.category]; done) | rfl
set_option maxRecDepth 65536 in
set_option maxHeartbeats 40000000 in
theorem str_i1_2 (l : Launch) (Z : State) (a0 : Array Value) (hw : ∀ d ∈ tables_1, d.before a0 Z = true) (ws : List Jvm.Cond) (a : Addr) (s' : Addr) (c0 : Int32) (c1 : Int32) (ks : ClassId) (gC : Int32) (u : Value) (u2 : Value) (h0 : Heap) (n0 : Nat) (Z0 : n0 ≤ h0.size) (O : Old Z n0 h0) (SC : Sta Z Z.heap "java/lang/String" "COMPACT_STRINGS" "Z" (.int gC)) (hgC : ¬ gC = (0 : Int32)) (E : Exa Z h0 a "java/lang/String") (F : Fld Z h0 a "java/lang/String" "value" "[B" u) (F2 : Fld Z h0 a "java/lang/String" "coder" "B" u2) (g : n0 ≤ a) (Vs : Arv Z h0 s' ks .char 2 [(.int c0), (.int c1)] (.int 0)) (hc0 : ¬ c0 < 0 ∧ ¬ (255 : Int32) < c0) (hc1 : ¬ c1 < 0 ∧ ¬ (255 : Int32) < c1) :
    MetFree l (⟨"java/lang/String", "<init>", "([C)V"⟩ : MethodName) (head1 (Jvm.Cond.code (⟨"java/lang/String", "<init>", "([C)V"⟩ : MethodName) jdk_42_method_3_code 2 none :: ws) ({ frames := 3, cells := 1, slots := 2, locals := 52 } : Room)) (fun aa' U1' => aa' = #[(.ref a), (.ref s')] ∧ Z.Warmed39 U1'.vm ∧ U1'.heap = h0) (fun _ _ _ _ _ => True) (fun _ U1' oo' U2' => ∃ vv' LL', oo' = .returned vv' ∧ (Q_str_i1_2 Z a s' c0 c1 ks gC u u2 h0 n0) vv' U2'.heap LL' ∧ FrameEnd U1' oo' U2' LL' ({ frames := 3, cells := 1, slots := 2, locals := 52 } : Room).cells ({ frames := 3, cells := 1, slots := 2, locals := 52 } : Room).slots) := by
  refine MetFree.of_bodySF (plainFor_of_name pn_java_lang_String) hisR ?_
  intro p e s m args below meth c s₁ Bd hml0 hP hK
  obtain ⟨rfl, hZ, hh⟩ := hP
  have hx := Bd.exec
  have hby := Bd.bytes
  have hml : c.maxLocals = 2 := hml0
  have hown : s.vm.findClass "java/lang/String" = some m.cls := findClass_of_methodNamed Bd.named
  have hnm := (name_of_methodNamed Bd.named Bd.method).1
  have X0 : Stand p l e ({ frames := 3, cells := 1, slots := 2, locals := 52 } : Room) s m #[(.ref a), (.ref s')] below meth c s₁ [] 0 0 := Stand.of_body Bd
  have e0 : s₁.heap = h0 := by rw [← hh, Bd.state]; rfl
  have N0 := Fr.nil n0
  have lta := own_nlt (E.lt)
  have lts := own_nlt (Vs.lt)
  refine go_of (A := s₁.setTop (entryFrame m #[(.ref a), (.ref s')] 2)) (B := s₁.setTop (mkF m 0 #[.val (.ref a), .val (.ref s')] [])) (fun _ kk' => castTop (ef_str_i1_2 m a s') kk') ?_
  refine go_of (B := (s₁.setTop (mkF m 1 #[.val (.ref a), .val (.ref s')] [(.ref a)]))) (fun _ kk => XS.aloadN X0.here hx rfl (hb hby d3_0) rfl rfl kk) ?_
  refine go_of (B := (s₁.setTop (mkF m 2 #[.val (.ref a), .val (.ref s')] [(.ref s'), (.ref a)]))) (fun _ kk => XS.aloadN X0.here hx rfl (hb hby d3_1) rfl rfl kk) ?_
  refine go_of (B := (s₁.setTop (mkF m 3 #[.val (.ref a), .val (.ref s')] [(.int (0 : Int32)), (.ref s'), (.ref a)]))) (fun _ kk => XS.iconst X0.here hx rfl (hb hby d3_2) kk) ?_
  refine go_of (B := (s₁.setTop (mkF m 4 #[.val (.ref a), .val (.ref s')] [(.ref s'), (.int (0 : Int32)), (.ref s'), (.ref a)]))) (fun _ kk => XS.aloadN X0.here hx rfl (hb hby d3_3) rfl rfl kk) ?_
  obtain ⟨cl1, Ar1, q1, Sz1, Nn1, Hh1, G1⟩ := id (Vs)
  have ln1 := len_of Sz1 Nn1
  refine go_of (B := (s₁.setTop (mkF m 5 #[.val (.ref a), .val (.ref s')] [(.int (2 : Int32)), (.int (0 : Int32)), (.ref s'), (.ref a)]))) (fun _ kk => X0.arraylength hx (by rw [e0]; exact Ar1.1) (State.isArrayOf_alike hZ.alike Ar1.2.1) (g := (mkF m 4 #[.val (.ref a), .val (.ref s')] [(.ref s'), (.int (0 : Int32)), (.ref s'), (.ref a)])) rfl rfl (hb hby d3_4) _ (by rw [ln1]; exact kk)) ?_
  refine go_of (B := (s₁.setTop (mkF m 6 #[.val (.ref a), .val (.ref s')] [.null, (.int (2 : Int32)), (.int (0 : Int32)), (.ref s'), (.ref a)]))) (fun _ kk => XS.aconstNull X0.here hx rfl (hb hby d3_5) kk) ?_
  obtain ⟨_, _, ⟨T2, L2, k2, n2⟩, -, X2, ⟨Lc2, hQ2, l2, y2, z2⟩, st2⟩ := X0.specialBack hx (y := (⟨"java/lang/String", "<init>", "([CIILjava/lang/Void;)V"⟩ : MethodName)) rfl hown (mvT hZ (hw _ (List.mem_of_getElem? (i := 17) rfl))) (mvT hZ (hw _ (List.mem_of_getElem? (i := 18) rfl))) (mvT hZ (hw _ (List.mem_of_getElem? (i := 20) rfl))) (by decide) (backOf (W := 0) (str_i4_2 l Z a0 hw [] a s' c0 c1 ks gC u u2 h0 n0 Z0 O SC hgC E F F2 g Vs hc0 hc1) hZ (hw _ (List.mem_of_getElem? (i := 20) rfl)) (hw _ (List.mem_of_getElem? (i := 12) rfl)) (by decide) (by decide)) (g := (mkF m 6 #[.val (.ref a), .val (.ref s')] [.null, (.int (2 : Int32)), (.int (0 : Int32)), (.ref s'), (.ref a)])) rfl (by rw [hml]; rfl) (Steps.refl _) (a := a) (argsL := [(.ref s'), (.int (0 : Int32)), (.int (2 : Int32)), .null]) (rest := []) (lenOf pd___CIILjava_lang_Void__V rfl) rfl (by show 2 * 0 + _ ≤ _; exact Nat.le_of_eq rfl) (hb hby d3_6) (fun _ _ => ⟨rfl, e0, (by decide : 0 + 1 ≤ _), (by decide : 0 + 2 ≤ _)⟩)
  dsimp only [Pt.U, Pt.locs, Pt.cells, Pt.slots] at X2 l2 y2 z2 st2 hQ2
  subst l2 y2 z2
  obtain ⟨rfl, N2q, K2, S2⟩ := hQ2
  have N2 := Fr.app N0 N2q
  have sz2 := K2.1
  refine go_tr (B := (T2.setTop (mkF m 9 #[.val (.ref a), .val (.ref s')] []))) (st2) ?_
  refine go_end X2 (v := none) (fun _ => rfl) Bd.notSynchronized (by decide) (by decide) (Q := (Q_str_i1_2 Z a s' c0 c1 ks gC u u2 h0 n0)) ?_ (fun fs hr => X2.returnOut hx Bd.returns (hb hby d3_9) hr)
  show (fun (v : Option Value) (h : Heap) (L : List Loc) => v = none ∧ Fr n0 L ∧ Keep h0 h [a] ∧ Str Z h a 2 [c0, c1]) (none) T2.heap _
  exact ⟨rfl, N2, ((Keep.refl h0 [a]).trans K2 (allS (Or.inl (List.mem_of_getElem? (i := 0) rfl)) all0)), S2⟩
theorem d17_0 : decode method_3_code 0 = .ok (.new 7, 3) := by decide +kernel
theorem d17_3 : decode method_3_code 3 = .ok (.dup, 1) := by decide +kernel
theorem d17_4 : decode method_3_code 4 = .ok (.iconst 2, 1) := by decide +kernel
theorem d17_5 : decode method_3_code 5 = .ok (.newarray .char, 2) := by decide +kernel
theorem d17_7 : decode method_3_code 7 = .ok (.dup, 1) := by decide +kernel
theorem d17_8 : decode method_3_code 8 = .ok (.iconst 0, 1) := by decide +kernel
theorem d17_9 : decode method_3_code 9 = .ok (.iload_n 0, 1) := by decide +kernel
theorem d17_10 : decode method_3_code 10 = .ok (.castore, 1) := by decide +kernel
theorem d17_11 : decode method_3_code 11 = .ok (.dup, 1) := by decide +kernel
theorem d17_12 : decode method_3_code 12 = .ok (.iconst 1, 1) := by decide +kernel
theorem d17_13 : decode method_3_code 13 = .ok (.iload_n 1, 1) := by decide +kernel
theorem d17_14 : decode method_3_code 14 = .ok (.castore, 1) := by decide +kernel
theorem d17_15 : decode method_3_code 15 = .ok (.invokespecial 9, 3) := by decide +kernel
theorem d17_18 : decode method_3_code 18 = .ok (.areturn, 1) := by decide +kernel
def Q_rm17 (Z : State) (ca : Int32) (cb : Int32) (gC : Int32) (h0 : Heap) (n0 : Nat) (v : Option Value) (h : Heap) (L : List Loc) : Prop := ∃ t : Addr, v = some (.ref t) ∧ Fr n0 L ∧ h0.size ≤ t ∧ Keep h0 h [] ∧ StrL Z h t [ca, cb]
theorem ef_rm17 (m : MethodId) (ca : Int32) (cb : Int32)  : entryFrame m #[(.int ca), (.int cb)] 2 = mkF m 0 #[.val (.int ca), .val (.int cb)] [] := by first | (simp [entryFrame, mkF, argsToLocals, Value.category]; done) | rfl
set_option maxRecDepth 65536 in
set_option maxHeartbeats 40000000 in
theorem rm17 (l : Launch) (Z : State) (a0 : Array Value) (hw : ∀ d ∈ tables_1, d.before a0 Z = true) (ws : List Jvm.Cond) (ca : Int32) (cb : Int32) (gC : Int32) (h0 : Heap) (n0 : Nat) (Z0 : n0 ≤ h0.size) (O : Old Z n0 h0) (SC : Sta Z Z.heap "java/lang/String" "COMPACT_STRINGS" "Z" (.int gC)) (hgC : ¬ gC = (0 : Int32)) (hca : ¬ ca < 0 ∧ ¬ (255 : Int32) < ca) (hcb : ¬ cb < 0 ∧ ¬ (255 : Int32) < cb) :
    MetFree l (⟨"com/example/sure_paths/surepaths/model/ExistentialToClassEqualsPinLaw", "two", "(CC)Ljava/lang/String;"⟩ : MethodName) (head1 (Jvm.Cond.code (⟨"com/example/sure_paths/surepaths/model/ExistentialToClassEqualsPinLaw", "two", "(CC)Ljava/lang/String;"⟩ : MethodName) method_3_code 2 (some (.object "java/lang/String")) :: ws) ({ frames := 4, cells := 3, slots := 8, locals := 66 } : Room)) (fun aa' U1' => aa' = #[(.int ca), (.int cb)] ∧ Z.Warmed39 U1'.vm ∧ U1'.heap = h0) (fun _ _ _ _ _ => True) (fun _ U1' oo' U2' => ∃ vv' LL', oo' = .returned vv' ∧ (Q_rm17 Z ca cb gC h0 n0) vv' U2'.heap LL' ∧ FrameEnd U1' oo' U2' LL' ({ frames := 4, cells := 3, slots := 8, locals := 66 } : Room).cells ({ frames := 4, cells := 3, slots := 8, locals := 66 } : Room).slots) := by
  refine MetFree.of_bodySF (plainFor_of_name pn_com_example_sure_paths_surepaths_model_ExistentialToClassEqualsPinLaw) hisR ?_
  intro p e s m args below meth c s₁ Bd hml0 hP hK
  obtain ⟨rfl, hZ, hh⟩ := hP
  have hx := Bd.exec
  have hby := Bd.bytes
  have hml : c.maxLocals = 2 := hml0
  have hown : s.vm.findClass "com/example/sure_paths/surepaths/model/ExistentialToClassEqualsPinLaw" = some m.cls := findClass_of_methodNamed Bd.named
  have hnm := (name_of_methodNamed Bd.named Bd.method).1
  have X0 : Stand p l e ({ frames := 4, cells := 3, slots := 8, locals := 66 } : Room) s m #[(.int ca), (.int cb)] below meth c s₁ [] 0 0 := Stand.of_body Bd
  have e0 : s₁.heap = h0 := by rw [← hh, Bd.state]; rfl
  have N0 := Fr.nil n0
  refine go_of (A := s₁.setTop (entryFrame m #[(.int ca), (.int cb)] 2)) (B := s₁.setTop (mkF m 0 #[.val (.int ca), .val (.int cb)] [])) (fun _ kk' => castTop (ef_rm17 m ca cb) kk') ?_
  obtain ⟨T1, h1, X1, e1, E1, A1, D1, -, st1⟩ := newO X0 hx hZ hown (hw _ (List.mem_of_getElem? (i := 10) rfl)) (hw _ (List.mem_of_getElem? (i := 11) rfl)) (hw _ (List.mem_of_getElem? (i := 12) rfl)) e0 (g := (mkF m 0 #[.val (.int ca), .val (.int cb)] [])) rfl (hb hby d17_0) (by decide) (by decide)
  obtain ⟨b1, g1⟩ : ∃ z, z = h0.size := ⟨_, rfl⟩
  rw [← g1] at A1 D1 st1
  have hi1 := own_nlt A1.lt
  have sz1 := E1.1
  have F1_coder : Fld Z h1 b1 "java/lang/String" "coder" "B" (.int (0 : Int32)) := D1 (Or.inr (hw _ (List.mem_of_getElem? (i := 37) rfl))) (ty := .byte) (by decide)
  have F1_value : Fld Z h1 b1 "java/lang/String" "value" "[B" .null := D1 (Or.inr (hw _ (List.mem_of_getElem? (i := 39) rfl))) (ty := (.array .byte)) (by decide)
  refine go_of (B := (T1.setTop (mkF m 3 #[.val (.int ca), .val (.int cb)] [(.ref b1)]))) (st1) ?_
  refine go_of (B := (T1.setTop (mkF m 4 #[.val (.int ca), .val (.int cb)] [(.ref b1), (.ref b1)]))) (fun _ kk => XS.dup X1.here hx rfl (hb hby d17_3) rfl rfl kk) ?_
  refine go_of (B := (T1.setTop (mkF m 5 #[.val (.int ca), .val (.int cb)] [(.int (2 : Int32)), (.ref b1), (.ref b1)]))) (fun _ kk => XS.iconst X1.here hx rfl (hb hby d17_4) kk) ?_
  obtain ⟨T2, h2, k2, X2, e2, E2, A2, st2⟩ := newP X1 hx hZ (hw _ (List.mem_of_getElem? (i := 13) rfl)) e1 (g := (mkF m 5 #[.val (.int ca), .val (.int cb)] [(.int (2 : Int32)), (.ref b1), (.ref b1)])) rfl (hb hby d17_5) rfl (by decide) (cap := 2) (by decide) (by decide) (by decide) (by decide)
  obtain ⟨b2, g2⟩ : ∃ z, z = h1.size := ⟨_, rfl⟩
  rw [← g2] at A2 st2
  have hi2 := own_nlt A2.lt
  have sz2 := E2.1
  have V2 : Arv Z h2 b2 k2 .char (2 : Int32) [(.int (0 : Int32)), (.int (0 : Int32))] (.int (0 : Int32)) := (Arv.new A2 (by decide)).pad (pad_rep [] (.int (0 : Int32)) 2)
  refine go_of (B := (T2.setTop (mkF m 7 #[.val (.int ca), .val (.int cb)] [(.ref b2), (.ref b1), (.ref b1)]))) (st2) ?_
  refine go_of (B := (T2.setTop (mkF m 8 #[.val (.int ca), .val (.int cb)] [(.ref b2), (.ref b2), (.ref b1), (.ref b1)]))) (fun _ kk => XS.dup X2.here hx rfl (hb hby d17_7) rfl rfl kk) ?_
  refine go_of (B := (T2.setTop (mkF m 9 #[.val (.int ca), .val (.int cb)] [(.int (0 : Int32)), (.ref b2), (.ref b2), (.ref b1), (.ref b1)]))) (fun _ kk => XS.iconst X2.here hx rfl (hb hby d17_8) kk) ?_
  refine go_of (B := (T2.setTop (mkF m 10 #[.val (.int ca), .val (.int cb)] [(.int ca), (.int (0 : Int32)), (.ref b2), (.ref b2), (.ref b1), (.ref b1)]))) (fun _ kk => XS.iloadN X2.here hx rfl (hb hby d17_9) rfl kk) ?_
  obtain ⟨cl3, Ar3, q3, Sz3, Nn3, Hh3, G3⟩ := id (V2)
  obtain ⟨T4, h4, X4, e4, W4, st4⟩ := stC X2 hx hZ e2 Ar3 (j := (0 : Int32)) (inb_of Sz3 ⟨by decide, by decide⟩) (g := (mkF m 10 #[.val (.int ca), .val (.int cb)] [(.int ca), (.int (0 : Int32)), (.ref b2), (.ref b2), (.ref b1), (.ref b1)])) rfl rfl (hb hby d17_10)
  have sz4 := W4.size
  have N4 := Fr.snoc X4 N0 ((by first | omega | exact own_ne (by omega) | exact own_le (by omega) | exact own_lt (by omega)) : n0 ≤ b2)
  have V4 : Arv Z h4 b2 k2 .char (2 : Int32) [(.int (nar .char ca)), (.int (0 : Int32))] (.int (0 : Int32)) := Arv.set Ar3 q3 Sz3 Nn3 Hh3 G3 (fits_nar_char _) W4 0 rfl (Nat.le_of_ble_eq_true rfl)
  rw [own_narc hca] at V4
  refine go_of (B := (T4.setTop (mkF m 11 #[.val (.int ca), .val (.int cb)] [(.ref b2), (.ref b1), (.ref b1)]))) (st4) ?_
  refine go_of (B := (T4.setTop (mkF m 12 #[.val (.int ca), .val (.int cb)] [(.ref b2), (.ref b2), (.ref b1), (.ref b1)]))) (fun _ kk => XS.dup X4.here hx rfl (hb hby d17_11) rfl rfl kk) ?_
  refine go_of (B := (T4.setTop (mkF m 13 #[.val (.int ca), .val (.int cb)] [(.int (1 : Int32)), (.ref b2), (.ref b2), (.ref b1), (.ref b1)]))) (fun _ kk => XS.iconst X4.here hx rfl (hb hby d17_12) kk) ?_
  refine go_of (B := (T4.setTop (mkF m 14 #[.val (.int ca), .val (.int cb)] [(.int cb), (.int (1 : Int32)), (.ref b2), (.ref b2), (.ref b1), (.ref b1)]))) (fun _ kk => XS.iloadN X4.here hx rfl (hb hby d17_13) rfl kk) ?_
  obtain ⟨cl5, Ar5, q5, Sz5, Nn5, Hh5, G5⟩ := id (V4)
  obtain ⟨T6, h6, X6, e6, W6, st6⟩ := stC X4 hx hZ e4 Ar5 (j := (1 : Int32)) (inb_of Sz5 ⟨by decide, by decide⟩) (g := (mkF m 14 #[.val (.int ca), .val (.int cb)] [(.int cb), (.int (1 : Int32)), (.ref b2), (.ref b2), (.ref b1), (.ref b1)])) rfl rfl (hb hby d17_14)
  have sz6 := W6.size
  have N6 := Fr.snoc X6 N4 ((by first | omega | exact own_ne (by omega) | exact own_le (by omega) | exact own_lt (by omega)) : n0 ≤ b2)
  have V6 : Arv Z h6 b2 k2 .char (2 : Int32) [(.int ca), (.int (nar .char cb))] (.int (0 : Int32)) := Arv.set Ar5 q5 Sz5 Nn5 Hh5 G5 (fits_nar_char _) W6 1 rfl (Nat.le_of_ble_eq_true rfl)
  rw [own_narc hcb] at V6
  refine go_of (B := (T6.setTop (mkF m 15 #[.val (.int ca), .val (.int cb)] [(.ref b2), (.ref b1), (.ref b1)]))) (st6) ?_
  have cf_7 := ((((O.ext E1).ext E2).wr W4 (by first | omega | exact own_ne (by omega) | exact own_le (by omega) | exact own_lt (by omega))).wr W6 (by first | omega | exact own_ne (by omega) | exact own_le (by omega) | exact own_lt (by omega)))
  have cf_8 := (((A1.ext E2).wr W4).wr W6)
  have cf_9 := (((F1_value.ext E2).other W4 (Or.inl (by first | omega | exact own_ne (by omega) | exact own_le (by omega) | exact own_lt (by omega)))).other W6 (Or.inl (by first | omega | exact own_ne (by omega) | exact own_le (by omega) | exact own_lt (by omega))))
  have cf_10 := (((F1_coder.ext E2).other W4 (Or.inl (by first | omega | exact own_ne (by omega) | exact own_le (by omega) | exact own_lt (by omega)))).other W6 (Or.inl (by first | omega | exact own_ne (by omega) | exact own_le (by omega) | exact own_lt (by omega))))
  obtain ⟨_, _, ⟨T11, L11, k11, n11⟩, -, X11, ⟨Lc11, hQ11, l11, y11, z11⟩, st11⟩ := X6.specialBack hx (y := (⟨"java/lang/String", "<init>", "([C)V"⟩ : MethodName)) rfl hown (mvT hZ (hw _ (List.mem_of_getElem? (i := 14) rfl))) (mvT hZ (hw _ (List.mem_of_getElem? (i := 15) rfl))) (mvT hZ (hw _ (List.mem_of_getElem? (i := 16) rfl))) (by decide) (backOf (W := 1) (str_i1_2 l Z a0 hw [] b1 b2 ca cb k2 gC _ _ h6 n0 (by first | omega | exact own_ne (by omega) | exact own_le (by omega) | exact own_lt (by omega)) cf_7 SC hgC cf_8 cf_9 cf_10 (by first | omega | exact own_ne (by omega) | exact own_le (by omega) | exact own_lt (by omega)) V6 hca hcb) hZ (hw _ (List.mem_of_getElem? (i := 16) rfl)) (hw _ (List.mem_of_getElem? (i := 12) rfl)) (by decide) (by decide)) (g := (mkF m 15 #[.val (.int ca), .val (.int cb)] [(.ref b2), (.ref b1), (.ref b1)])) rfl (by rw [hml]; rfl) (Steps.refl _) (a := b1) (argsL := [(.ref b2)]) (rest := [(.ref b1)]) (lenOf pd___C_V rfl) rfl (by show 2 * 0 + _ ≤ _; exact Nat.le_of_eq rfl) (hb hby d17_15) (fun _ _ => ⟨rfl, e6, (by decide : 2 + 1 ≤ _), (by decide : 6 + 2 ≤ _)⟩)
  dsimp only [Pt.U, Pt.locs, Pt.cells, Pt.slots] at X11 l11 y11 z11 st11 hQ11
  subst l11 y11 z11
  obtain ⟨rfl, N11q, K11, S11⟩ := hQ11
  have N11 := Fr.app N6 N11q
  have sz11 := K11.1
  refine go_tr (B := (T11.setTop (mkF m 18 #[.val (.int ca), .val (.int cb)] [(.ref b1)]))) (st11) ?_
  refine go_end X11 (v := some (.ref b1)) (fun h => by rw [Bd.returns] at h; cases h) Bd.notSynchronized (by decide) (by decide) (Q := (Q_rm17 Z ca cb gC h0 n0)) ?_ (fun fs hr => own_retA X11 hx Bd.returns rfl rfl (hb hby d17_18) hr)
  show (fun (v : Option Value) (h : Heap) (L : List Loc) => ∃ t : Addr, v = some (.ref t) ∧ Fr n0 L ∧ h0.size ≤ t ∧ Keep h0 h [] ∧ StrL Z h t [ca, cb]) (some (.ref b1)) T11.heap _
  exact ⟨b1, rfl, N11, by omega, ((((((Keep.refl h0 []).ext E1).ext E2).wr W4 (Or.inr (by first | omega | exact own_ne (by omega) | exact own_le (by omega) | exact own_lt (by omega)))).wr W6 (Or.inr (by first | omega | exact own_ne (by omega) | exact own_le (by omega) | exact own_lt (by omega)))).trans K11 (allS (Or.inr (by first | omega | exact own_ne (by omega) | exact own_le (by omega) | exact own_lt (by omega))) all0)), S11⟩
theorem d1_0 : decode method_4_code 0 = .ok (.iload_n 0, 1) := by decide +kernel
theorem d1_1 : decode method_4_code 1 = .ok (.sipush 255, 3) := by decide +kernel
theorem d1_4 : decode method_4_code 4 = .ok (.iand, 1) := by decide +kernel
theorem d1_5 : decode method_4_code 5 = .ok (.i2c, 1) := by decide +kernel
theorem d1_6 : decode method_4_code 6 = .ok (.invokestatic 12, 3) := by decide +kernel
theorem pd__C_Ljava_lang_String_ : parseMethodDescriptor "(C)Ljava/lang/String;" = some ⟨[.char], some (.object "java/lang/String")⟩ := by decide +kernel
theorem d1_9 : decode method_4_code 9 = .ok (.areturn, 1) := by decide +kernel
def Q_rm1 (Z : State) (va : Int32) (gC : Int32) (h0 : Heap) (n0 : Nat) (v : Option Value) (h : Heap) (L : List Loc) : Prop := ∃ t : Addr, v = some (.ref t) ∧ Fr n0 L ∧ h0.size ≤ t ∧ Keep h0 h [] ∧ StrL Z h t [own_ch va]
theorem ef_rm1 (m : MethodId) (va : Int32)  : entryFrame m #[(.int va)] 1 = mkF m 0 #[.val (.int va)] [] := by first | (simp [entryFrame, mkF, argsToLocals, Value.category]; done) | rfl
set_option maxRecDepth 65536 in
set_option maxHeartbeats 40000000 in
theorem rm1 (l : Launch) (Z : State) (a0 : Array Value) (hw : ∀ d ∈ tables_1, d.before a0 Z = true) (ws : List Jvm.Cond) (va : Int32) (gC : Int32) (h0 : Heap) (n0 : Nat) (Z0 : n0 ≤ h0.size) (O : Old Z n0 h0) (SC : Sta Z Z.heap "java/lang/String" "COMPACT_STRINGS" "Z" (.int gC)) (hgC : ¬ gC = (0 : Int32)) :
    MetFree l (⟨"com/example/sure_paths/surepaths/model/ExistentialToClassEqualsPinLaw", "mine", "(I)Ljava/lang/String;"⟩ : MethodName) (head1 (Jvm.Cond.code (⟨"com/example/sure_paths/surepaths/model/ExistentialToClassEqualsPinLaw", "mine", "(I)Ljava/lang/String;"⟩ : MethodName) method_4_code 1 (some (.object "java/lang/String")) :: ws) ({ frames := 5, cells := 3, slots := 6, locals := 78 } : Room)) (fun aa' U1' => aa' = #[(.int va)] ∧ Z.Warmed39 U1'.vm ∧ U1'.heap = h0) (fun _ _ _ _ _ => True) (fun _ U1' oo' U2' => ∃ vv' LL', oo' = .returned vv' ∧ (Q_rm1 Z va gC h0 n0) vv' U2'.heap LL' ∧ FrameEnd U1' oo' U2' LL' ({ frames := 5, cells := 3, slots := 6, locals := 78 } : Room).cells ({ frames := 5, cells := 3, slots := 6, locals := 78 } : Room).slots) := by
  refine MetFree.of_bodySF (plainFor_of_name pn_com_example_sure_paths_surepaths_model_ExistentialToClassEqualsPinLaw) hisR ?_
  intro p e s m args below meth c s₁ Bd hml0 hP hK
  obtain ⟨rfl, hZ, hh⟩ := hP
  have hx := Bd.exec
  have hby := Bd.bytes
  have hml : c.maxLocals = 1 := hml0
  have hown : s.vm.findClass "com/example/sure_paths/surepaths/model/ExistentialToClassEqualsPinLaw" = some m.cls := findClass_of_methodNamed Bd.named
  have hnm := (name_of_methodNamed Bd.named Bd.method).1
  have X0 : Stand p l e ({ frames := 5, cells := 3, slots := 6, locals := 78 } : Room) s m #[(.int va)] below meth c s₁ [] 0 0 := Stand.of_body Bd
  have e0 : s₁.heap = h0 := by rw [← hh, Bd.state]; rfl
  have N0 := Fr.nil n0
  refine go_of (A := s₁.setTop (entryFrame m #[(.int va)] 1)) (B := s₁.setTop (mkF m 0 #[.val (.int va)] [])) (fun _ kk' => castTop (ef_rm1 m va) kk') ?_
  refine go_of (B := (s₁.setTop (mkF m 1 #[.val (.int va)] [(.int va)]))) (fun _ kk => XS.iloadN X0.here hx rfl (hb hby d1_0) rfl kk) ?_
  refine go_of (B := (s₁.setTop (mkF m 4 #[.val (.int va)] [(.int (255 : Int32)), (.int va)]))) (fun _ kk => XS.sipush X0.here hx rfl (hb hby d1_1) kk) ?_
  refine go_of (B := (s₁.setTop (mkF m 5 #[.val (.int va)] [(.int (va &&& (255 : Int32)))]))) (fun _ kk => XS.iand X0.here hx rfl (hb hby d1_4) rfl kk) ?_
  refine go_of (B := (s₁.setTop (mkF m 6 #[.val (.int va)] [(.int ((va &&& (255 : Int32)).toUInt32.toUInt16.toUInt32.toInt32))]))) (fun _ kk => XS.i2c X0.here hx rfl (hb hby d1_5) rfl kk) ?_
  obtain ⟨_, _, ⟨T1, L1, k1, n1⟩, -, X1, ⟨Lc1, hQ1, l1, y1, z1⟩, st1⟩ := Jvm.LawKit.callS X0 hx (y := (⟨"com/example/sure_paths/surepaths/model/ExistentialToClassEqualsPinLaw", "one", "(C)Ljava/lang/String;"⟩ : MethodName)) hown (mvT hZ (hw _ (List.mem_of_getElem? (i := 7) rfl))) (mvT hZ (hw _ (List.mem_of_getElem? (i := 8) rfl))) (mvT hZ (hw _ (List.mem_of_getElem? (i := 5) rfl))) (mvT hZ (hw _ (List.mem_of_getElem? (i := 9) rfl))) (by decide) (backOf (W := 0) (rm2 l Z a0 hw [] ((va &&& (255 : Int32)).toUInt32.toUInt16.toUInt32.toInt32) gC h0 n0 (by first | omega | exact own_ne (by omega) | exact own_le (by omega) | exact own_lt (by omega)) O SC hgC (own_chr va)) hZ (hw _ (List.mem_of_getElem? (i := 9) rfl)) (hw _ (List.mem_of_getElem? (i := 5) rfl)) (by decide) (by decide)) (g := (mkF m 6 #[.val (.int va)] [(.int ((va &&& (255 : Int32)).toUInt32.toUInt16.toUInt32.toInt32))])) rfl (by rw [hml]; rfl) (argsL := [(.int ((va &&& (255 : Int32)).toUInt32.toUInt16.toUInt32.toInt32))]) (rest := []) (lenOf pd__C_Ljava_lang_String_ rfl) rfl (by show 2 * 0 + _ ≤ _; exact Nat.le_of_eq rfl) (hb hby d1_6) (fun _ _ => ⟨rfl, e0, (by decide : 0 + 3 ≤ _), (by decide : 0 + 6 ≤ _)⟩)
  dsimp only [Pt.U, Pt.locs, Pt.cells, Pt.slots] at X1 l1 y1 z1 st1 hQ1
  subst l1 y1 z1
  obtain ⟨b1, rfl, N1q, lo1, K1, S1⟩ := hQ1
  have lo1 := own_nle lo1
  have N1 := Fr.app N0 N1q
  have hi1 := own_nlt (S1.exa.lt)
  have sz1 := K1.1
  refine go_of (B := (T1.setTop (mkF m 9 #[.val (.int va)] [(.ref b1)]))) (st1) ?_
  refine go_end X1 (v := some (.ref b1)) (fun h => by rw [Bd.returns] at h; cases h) Bd.notSynchronized (by decide) (by decide) (Q := (Q_rm1 Z va gC h0 n0)) ?_ (fun fs hr => own_retA X1 hx Bd.returns rfl rfl (hb hby d1_9) hr)
  show (fun (v : Option Value) (h : Heap) (L : List Loc) => ∃ t : Addr, v = some (.ref t) ∧ Fr n0 L ∧ h0.size ≤ t ∧ Keep h0 h [] ∧ StrL Z h t [own_ch va]) (some (.ref b1)) T1.heap _
  refine ⟨b1, rfl, N1, by omega, ((Keep.refl h0 []).trans K1 all0), ?_⟩
  exact S1
theorem d13_0 : decode method_5_code 0 = .ok (.iload_n 0, 1) := by decide +kernel
theorem d13_1 : decode method_5_code 1 = .ok (.sipush 255, 3) := by decide +kernel
theorem d13_4 : decode method_5_code 4 = .ok (.iand, 1) := by decide +kernel
theorem d13_5 : decode method_5_code 5 = .ok (.i2c, 1) := by decide +kernel
theorem d13_6 : decode method_5_code 6 = .ok (.istore_n 1, 1) := by decide +kernel
theorem d13_7 : decode method_5_code 7 = .ok (.iload_n 0, 1) := by decide +kernel
theorem d13_8 : decode method_5_code 8 = .ok (.bipush 8, 2) := by decide +kernel
theorem d13_10 : decode method_5_code 10 = .ok (.iushr, 1) := by decide +kernel
theorem d13_11 : decode method_5_code 11 = .ok (.sipush 255, 3) := by decide +kernel
theorem d13_14 : decode method_5_code 14 = .ok (.iand, 1) := by decide +kernel
theorem d13_15 : decode method_5_code 15 = .ok (.i2c, 1) := by decide +kernel
theorem d13_16 : decode method_5_code 16 = .ok (.istore_n 2, 1) := by decide +kernel
theorem d13_17 : decode method_5_code 17 = .ok (.iload_n 0, 1) := by decide +kernel
theorem d13_18 : decode method_5_code 18 = .ok (.bipush 16, 2) := by decide +kernel
theorem d13_20 : decode method_5_code 20 = .ok (.iushr, 1) := by decide +kernel
theorem d13_21 : decode method_5_code 21 = .ok (.iconst 1, 1) := by decide +kernel
theorem d13_22 : decode method_5_code 22 = .ok (.iand, 1) := by decide +kernel
theorem d13_23 : decode method_5_code 23 = .ok (.ifCond .eq 8, 3) := by decide +kernel
theorem d13_31 : decode method_5_code 31 = .ok (.iload_n 0, 1) := by decide +kernel
theorem d13_32 : decode method_5_code 32 = .ok (.bipush 17, 2) := by decide +kernel
theorem d13_34 : decode method_5_code 34 = .ok (.iushr, 1) := by decide +kernel
theorem d13_35 : decode method_5_code 35 = .ok (.iconst 1, 1) := by decide +kernel
theorem d13_36 : decode method_5_code 36 = .ok (.iand, 1) := by decide +kernel
theorem d13_37 : decode method_5_code 37 = .ok (.ifCond .eq 17, 3) := by decide +kernel
theorem d13_54 : decode method_5_code 54 = .ok (.iload_n 2, 1) := by decide +kernel
theorem d13_55 : decode method_5_code 55 = .ok (.invokestatic 12, 3) := by decide +kernel
theorem d13_58 : decode method_5_code 58 = .ok (.areturn, 1) := by decide +kernel
def Q_rm13 (Z : State) (va : Int32) (gC : Int32) (h0 : Heap) (n0 : Nat) (v : Option Value) (h : Heap) (L : List Loc) : Prop := ∃ t : Addr, v = some (.ref t) ∧ Fr n0 L ∧ h0.size ≤ t ∧ Keep h0 h [] ∧ StrL Z h t (own_th va)
theorem d13_40 : decode method_5_code 40 = .ok (.iload_n 2, 1) := by decide +kernel
theorem d13_41 : decode method_5_code 41 = .ok (.iload_n 0, 1) := by decide +kernel
theorem d13_42 : decode method_5_code 42 = .ok (.bipush 18, 2) := by decide +kernel
theorem d13_44 : decode method_5_code 44 = .ok (.iushr, 1) := by decide +kernel
theorem d13_45 : decode method_5_code 45 = .ok (.sipush 255, 3) := by decide +kernel
theorem d13_48 : decode method_5_code 48 = .ok (.iand, 1) := by decide +kernel
theorem d13_49 : decode method_5_code 49 = .ok (.i2c, 1) := by decide +kernel
theorem d13_50 : decode method_5_code 50 = .ok (.invokestatic 18, 3) := by decide +kernel
theorem pd__CC_Ljava_lang_String_ : parseMethodDescriptor "(CC)Ljava/lang/String;" = some ⟨[.char, .char], some (.object "java/lang/String")⟩ := by decide +kernel
theorem d13_53 : decode method_5_code 53 = .ok (.areturn, 1) := by decide +kernel
theorem d13_26 : decode method_5_code 26 = .ok (.iload_n 1, 1) := by decide +kernel
theorem d13_27 : decode method_5_code 27 = .ok (.invokestatic 12, 3) := by decide +kernel
theorem d13_30 : decode method_5_code 30 = .ok (.areturn, 1) := by decide +kernel
theorem ef_rm13 (m : MethodId) (va : Int32)  : entryFrame m #[(.int va)] 3 = mkF m 0 #[.val (.int va), .unset, .unset] [] := by first | (simp [entryFrame, mkF, argsToLocals, Value.category]; done) | rfl
set_option maxRecDepth 65536 in
set_option maxHeartbeats 40000000 in
theorem rm13 (l : Launch) (Z : State) (a0 : Array Value) (hw : ∀ d ∈ tables_1, d.before a0 Z = true) (ws : List Jvm.Cond) (va : Int32) (gC : Int32) (h0 : Heap) (n0 : Nat) (Z0 : n0 ≤ h0.size) (O : Old Z n0 h0) (SC : Sta Z Z.heap "java/lang/String" "COMPACT_STRINGS" "Z" (.int gC)) (hgC : ¬ gC = (0 : Int32)) :
    MetFree l (⟨"com/example/sure_paths/surepaths/model/ExistentialToClassEqualsPinLaw", "theirs", "(I)Ljava/lang/String;"⟩ : MethodName) (head1 (Jvm.Cond.code (⟨"com/example/sure_paths/surepaths/model/ExistentialToClassEqualsPinLaw", "theirs", "(I)Ljava/lang/String;"⟩ : MethodName) method_5_code 3 (some (.object "java/lang/String")) :: ws) ({ frames := 5, cells := 3, slots := 8, locals := 79 } : Room)) (fun aa' U1' => aa' = #[(.int va)] ∧ Z.Warmed39 U1'.vm ∧ U1'.heap = h0) (fun _ _ _ _ _ => True) (fun _ U1' oo' U2' => ∃ vv' LL', oo' = .returned vv' ∧ (Q_rm13 Z va gC h0 n0) vv' U2'.heap LL' ∧ FrameEnd U1' oo' U2' LL' ({ frames := 5, cells := 3, slots := 8, locals := 79 } : Room).cells ({ frames := 5, cells := 3, slots := 8, locals := 79 } : Room).slots) := by
  refine MetFree.of_bodySF (plainFor_of_name pn_com_example_sure_paths_surepaths_model_ExistentialToClassEqualsPinLaw) hisR ?_
  intro p e s m args below meth c s₁ Bd hml0 hP hK
  obtain ⟨rfl, hZ, hh⟩ := hP
  have hx := Bd.exec
  have hby := Bd.bytes
  have hml : c.maxLocals = 3 := hml0
  have hown : s.vm.findClass "com/example/sure_paths/surepaths/model/ExistentialToClassEqualsPinLaw" = some m.cls := findClass_of_methodNamed Bd.named
  have hnm := (name_of_methodNamed Bd.named Bd.method).1
  have X0 : Stand p l e ({ frames := 5, cells := 3, slots := 8, locals := 79 } : Room) s m #[(.int va)] below meth c s₁ [] 0 0 := Stand.of_body Bd
  have e0 : s₁.heap = h0 := by rw [← hh, Bd.state]; rfl
  have N0 := Fr.nil n0
  refine go_of (A := s₁.setTop (entryFrame m #[(.int va)] 3)) (B := s₁.setTop (mkF m 0 #[.val (.int va), .unset, .unset] [])) (fun _ kk' => castTop (ef_rm13 m va) kk') ?_
  refine go_of (B := (s₁.setTop (mkF m 1 #[.val (.int va), .unset, .unset] [(.int va)]))) (fun _ kk => XS.iloadN X0.here hx rfl (hb hby d13_0) rfl kk) ?_
  refine go_of (B := (s₁.setTop (mkF m 4 #[.val (.int va), .unset, .unset] [(.int (255 : Int32)), (.int va)]))) (fun _ kk => XS.sipush X0.here hx rfl (hb hby d13_1) kk) ?_
  refine go_of (B := (s₁.setTop (mkF m 5 #[.val (.int va), .unset, .unset] [(.int (va &&& (255 : Int32)))]))) (fun _ kk => XS.iand X0.here hx rfl (hb hby d13_4) rfl kk) ?_
  refine go_of (B := (s₁.setTop (mkF m 6 #[.val (.int va), .unset, .unset] [(.int ((va &&& (255 : Int32)).toUInt32.toUInt16.toUInt32.toInt32))]))) (fun _ kk => XS.i2c X0.here hx rfl (hb hby d13_5) rfl kk) ?_
  refine go_of (B := (s₁.setTop (mkF m 7 #[.val (.int va), .val (.int (own_ch va)), .unset] []))) (fun _ kk => XS.istoreN X0.here hx rfl (hb hby d13_6) rfl rfl kk) ?_
  refine go_of (B := (s₁.setTop (mkF m 8 #[.val (.int va), .val (.int (own_ch va)), .unset] [(.int va)]))) (fun _ kk => XS.iloadN X0.here hx rfl (hb hby d13_7) rfl kk) ?_
  refine go_of (B := (s₁.setTop (mkF m 10 #[.val (.int va), .val (.int (own_ch va)), .unset] [(.int (8 : Int32)), (.int va)]))) (fun _ kk => XS.bipush X0.here hx rfl (hb hby d13_8) kk) ?_
  refine go_of (B := (s₁.setTop (mkF m 11 #[.val (.int va), .val (.int (own_ch va)), .unset] [(.int ((va.toUInt32 >>> ((8 : Int32) &&& 31).toUInt32).toInt32))]))) (fun _ kk => XS.iushr X0.here hx rfl (hb hby d13_10) rfl kk) ?_
  refine go_of (B := (s₁.setTop (mkF m 14 #[.val (.int va), .val (.int (own_ch va)), .unset] [(.int (255 : Int32)), (.int ((va.toUInt32 >>> ((8 : Int32) &&& 31).toUInt32).toInt32))]))) (fun _ kk => XS.sipush X0.here hx rfl (hb hby d13_11) kk) ?_
  refine go_of (B := (s₁.setTop (mkF m 15 #[.val (.int va), .val (.int (own_ch va)), .unset] [(.int (((va.toUInt32 >>> ((8 : Int32) &&& 31).toUInt32).toInt32) &&& (255 : Int32)))]))) (fun _ kk => XS.iand X0.here hx rfl (hb hby d13_14) rfl kk) ?_
  refine go_of (B := (s₁.setTop (mkF m 16 #[.val (.int va), .val (.int (own_ch va)), .unset] [(.int ((((va.toUInt32 >>> ((8 : Int32) &&& 31).toUInt32).toInt32) &&& (255 : Int32)).toUInt32.toUInt16.toUInt32.toInt32))]))) (fun _ kk => XS.i2c X0.here hx rfl (hb hby d13_15) rfl kk) ?_
  refine go_of (B := (s₁.setTop (mkF m 17 #[.val (.int va), .val (.int (own_ch va)), .val (.int (own_ch8 va))] []))) (fun _ kk => XS.istoreN X0.here hx rfl (hb hby d13_16) rfl rfl kk) ?_
  refine go_of (B := (s₁.setTop (mkF m 18 #[.val (.int va), .val (.int (own_ch va)), .val (.int (own_ch8 va))] [(.int va)]))) (fun _ kk => XS.iloadN X0.here hx rfl (hb hby d13_17) rfl kk) ?_
  refine go_of (B := (s₁.setTop (mkF m 20 #[.val (.int va), .val (.int (own_ch va)), .val (.int (own_ch8 va))] [(.int (16 : Int32)), (.int va)]))) (fun _ kk => XS.bipush X0.here hx rfl (hb hby d13_18) kk) ?_
  refine go_of (B := (s₁.setTop (mkF m 21 #[.val (.int va), .val (.int (own_ch va)), .val (.int (own_ch8 va))] [(.int ((va.toUInt32 >>> ((16 : Int32) &&& 31).toUInt32).toInt32))]))) (fun _ kk => XS.iushr X0.here hx rfl (hb hby d13_20) rfl kk) ?_
  refine go_of (B := (s₁.setTop (mkF m 22 #[.val (.int va), .val (.int (own_ch va)), .val (.int (own_ch8 va))] [(.int (1 : Int32)), (.int ((va.toUInt32 >>> ((16 : Int32) &&& 31).toUInt32).toInt32))]))) (fun _ kk => XS.iconst X0.here hx rfl (hb hby d13_21) kk) ?_
  refine go_of (B := (s₁.setTop (mkF m 23 #[.val (.int va), .val (.int (own_ch va)), .val (.int (own_ch8 va))] [(.int (((va.toUInt32 >>> ((16 : Int32) &&& 31).toUInt32).toInt32) &&& (1 : Int32)))]))) (fun _ kk => XS.iand X0.here hx rfl (hb hby d13_22) rfl kk) ?_
  by_cases hc1 : (((va.toUInt32 >>> ((16 : Int32) &&& 31).toUInt32).toInt32) &&& (1 : Int32)) = (0 : Int32)
  · refine go_of (B := (s₁.setTop (mkF m 31 #[.val (.int va), .val (.int (own_ch va)), .val (.int (own_ch8 va))] []))) (fun _ kk => XS.ifYes X0.here hx rfl (pc0 := 23) (pc' := 31) rfl (hb hby d13_23) rfl ((if0 _ _).trans (teq hc1).1) (by decide) (by decide) kk) ?_
    refine go_of (B := (s₁.setTop (mkF m 32 #[.val (.int va), .val (.int (own_ch va)), .val (.int (own_ch8 va))] [(.int va)]))) (fun _ kk => XS.iloadN X0.here hx rfl (hb hby d13_31) rfl kk) ?_
    refine go_of (B := (s₁.setTop (mkF m 34 #[.val (.int va), .val (.int (own_ch va)), .val (.int (own_ch8 va))] [(.int (17 : Int32)), (.int va)]))) (fun _ kk => XS.bipush X0.here hx rfl (hb hby d13_32) kk) ?_
    refine go_of (B := (s₁.setTop (mkF m 35 #[.val (.int va), .val (.int (own_ch va)), .val (.int (own_ch8 va))] [(.int ((va.toUInt32 >>> ((17 : Int32) &&& 31).toUInt32).toInt32))]))) (fun _ kk => XS.iushr X0.here hx rfl (hb hby d13_34) rfl kk) ?_
    refine go_of (B := (s₁.setTop (mkF m 36 #[.val (.int va), .val (.int (own_ch va)), .val (.int (own_ch8 va))] [(.int (1 : Int32)), (.int ((va.toUInt32 >>> ((17 : Int32) &&& 31).toUInt32).toInt32))]))) (fun _ kk => XS.iconst X0.here hx rfl (hb hby d13_35) kk) ?_
    refine go_of (B := (s₁.setTop (mkF m 37 #[.val (.int va), .val (.int (own_ch va)), .val (.int (own_ch8 va))] [(.int (((va.toUInt32 >>> ((17 : Int32) &&& 31).toUInt32).toInt32) &&& (1 : Int32)))]))) (fun _ kk => XS.iand X0.here hx rfl (hb hby d13_36) rfl kk) ?_
    by_cases hc2 : (((va.toUInt32 >>> ((17 : Int32) &&& 31).toUInt32).toInt32) &&& (1 : Int32)) = (0 : Int32)
    · refine go_of (B := (s₁.setTop (mkF m 54 #[.val (.int va), .val (.int (own_ch va)), .val (.int (own_ch8 va))] []))) (fun _ kk => XS.ifYes X0.here hx rfl (pc0 := 37) (pc' := 54) rfl (hb hby d13_37) rfl ((if0 _ _).trans (teq hc2).1) (by decide) (by decide) kk) ?_
      refine go_of (B := (s₁.setTop (mkF m 55 #[.val (.int va), .val (.int (own_ch va)), .val (.int (own_ch8 va))] [(.int (own_ch8 va))]))) (fun _ kk => XS.iloadN X0.here hx rfl (hb hby d13_54) rfl kk) ?_
      obtain ⟨_, _, ⟨T3, L3, k3, n3⟩, -, X3, ⟨Lc3, hQ3, l3, y3, z3⟩, st3⟩ := Jvm.LawKit.callS X0 hx (y := (⟨"com/example/sure_paths/surepaths/model/ExistentialToClassEqualsPinLaw", "one", "(C)Ljava/lang/String;"⟩ : MethodName)) hown (mvT hZ (hw _ (List.mem_of_getElem? (i := 7) rfl))) (mvT hZ (hw _ (List.mem_of_getElem? (i := 8) rfl))) (mvT hZ (hw _ (List.mem_of_getElem? (i := 5) rfl))) (mvT hZ (hw _ (List.mem_of_getElem? (i := 9) rfl))) (by decide) (backOf (W := 0) (rm2 l Z a0 hw [] (own_ch8 va) gC h0 n0 (by first | omega | exact own_ne (by omega) | exact own_le (by omega) | exact own_lt (by omega)) O SC hgC (own_chr _)) hZ (hw _ (List.mem_of_getElem? (i := 9) rfl)) (hw _ (List.mem_of_getElem? (i := 5) rfl)) (by decide) (by decide)) (g := (mkF m 55 #[.val (.int va), .val (.int (own_ch va)), .val (.int (own_ch8 va))] [(.int (own_ch8 va))])) rfl (by rw [hml]; rfl) (argsL := [(.int (own_ch8 va))]) (rest := []) (lenOf pd__C_Ljava_lang_String_ rfl) rfl (by show 2 * 0 + _ ≤ _; exact Nat.le_of_eq rfl) (hb hby d13_55) (fun _ _ => ⟨rfl, e0, (by decide : 0 + 3 ≤ _), (by decide : 0 + 6 ≤ _)⟩)
      dsimp only [Pt.U, Pt.locs, Pt.cells, Pt.slots] at X3 l3 y3 z3 st3 hQ3
      subst l3 y3 z3
      obtain ⟨b3, rfl, N3q, lo3, K3, S3⟩ := hQ3
      have lo3 := own_nle lo3
      have N3 := Fr.app N0 N3q
      have hi3 := own_nlt (S3.exa.lt)
      have sz3 := K3.1
      refine go_of (B := (T3.setTop (mkF m 58 #[.val (.int va), .val (.int (own_ch va)), .val (.int (own_ch8 va))] [(.ref b3)]))) (st3) ?_
      refine go_end X3 (v := some (.ref b3)) (fun h => by rw [Bd.returns] at h; cases h) Bd.notSynchronized (by decide) (by decide) (Q := (Q_rm13 Z va gC h0 n0)) ?_ (fun fs hr => own_retA X3 hx Bd.returns rfl rfl (hb hby d13_58) hr)
      show (fun (v : Option Value) (h : Heap) (L : List Loc) => ∃ t : Addr, v = some (.ref t) ∧ Fr n0 L ∧ h0.size ≤ t ∧ Keep h0 h [] ∧ StrL Z h t (own_th va)) (some (.ref b3)) T3.heap _
      refine ⟨b3, rfl, N3, by omega, ((Keep.refl h0 []).trans K3 all0), ?_⟩
      unfold own_th; simp only [hc1, hc2, if_true, if_false, ↓reduceIte]
      exact S3
    · refine go_of (B := (s₁.setTop (mkF m 40 #[.val (.int va), .val (.int (own_ch va)), .val (.int (own_ch8 va))] []))) (fun _ kk => XS.ifNo X0.here hx rfl (hb hby d13_37) rfl ((if0 _ _).trans (feq hc2).1) kk) ?_
      refine go_of (B := (s₁.setTop (mkF m 41 #[.val (.int va), .val (.int (own_ch va)), .val (.int (own_ch8 va))] [(.int (own_ch8 va))]))) (fun _ kk => XS.iloadN X0.here hx rfl (hb hby d13_40) rfl kk) ?_
      refine go_of (B := (s₁.setTop (mkF m 42 #[.val (.int va), .val (.int (own_ch va)), .val (.int (own_ch8 va))] [(.int va), (.int (own_ch8 va))]))) (fun _ kk => XS.iloadN X0.here hx rfl (hb hby d13_41) rfl kk) ?_
      refine go_of (B := (s₁.setTop (mkF m 44 #[.val (.int va), .val (.int (own_ch va)), .val (.int (own_ch8 va))] [(.int (18 : Int32)), (.int va), (.int (own_ch8 va))]))) (fun _ kk => XS.bipush X0.here hx rfl (hb hby d13_42) kk) ?_
      refine go_of (B := (s₁.setTop (mkF m 45 #[.val (.int va), .val (.int (own_ch va)), .val (.int (own_ch8 va))] [(.int ((va.toUInt32 >>> ((18 : Int32) &&& 31).toUInt32).toInt32)), (.int (own_ch8 va))]))) (fun _ kk => XS.iushr X0.here hx rfl (hb hby d13_44) rfl kk) ?_
      refine go_of (B := (s₁.setTop (mkF m 48 #[.val (.int va), .val (.int (own_ch va)), .val (.int (own_ch8 va))] [(.int (255 : Int32)), (.int ((va.toUInt32 >>> ((18 : Int32) &&& 31).toUInt32).toInt32)), (.int (own_ch8 va))]))) (fun _ kk => XS.sipush X0.here hx rfl (hb hby d13_45) kk) ?_
      refine go_of (B := (s₁.setTop (mkF m 49 #[.val (.int va), .val (.int (own_ch va)), .val (.int (own_ch8 va))] [(.int (((va.toUInt32 >>> ((18 : Int32) &&& 31).toUInt32).toInt32) &&& (255 : Int32))), (.int (own_ch8 va))]))) (fun _ kk => XS.iand X0.here hx rfl (hb hby d13_48) rfl kk) ?_
      refine go_of (B := (s₁.setTop (mkF m 50 #[.val (.int va), .val (.int (own_ch va)), .val (.int (own_ch8 va))] [(.int ((((va.toUInt32 >>> ((18 : Int32) &&& 31).toUInt32).toInt32) &&& (255 : Int32)).toUInt32.toUInt16.toUInt32.toInt32)), (.int (own_ch8 va))]))) (fun _ kk => XS.i2c X0.here hx rfl (hb hby d13_49) rfl kk) ?_
      obtain ⟨_, _, ⟨T4, L4, k4, n4⟩, -, X4, ⟨Lc4, hQ4, l4, y4, z4⟩, st4⟩ := Jvm.LawKit.callS X0 hx (y := (⟨"com/example/sure_paths/surepaths/model/ExistentialToClassEqualsPinLaw", "two", "(CC)Ljava/lang/String;"⟩ : MethodName)) hown (mvT hZ (hw _ (List.mem_of_getElem? (i := 103) rfl))) (mvT hZ (hw _ (List.mem_of_getElem? (i := 104) rfl))) (mvT hZ (hw _ (List.mem_of_getElem? (i := 5) rfl))) (mvT hZ (hw _ (List.mem_of_getElem? (i := 105) rfl))) (by decide) (backOf (W := 0) (rm17 l Z a0 hw [] (own_ch8 va) ((((va.toUInt32 >>> ((18 : Int32) &&& 31).toUInt32).toInt32) &&& (255 : Int32)).toUInt32.toUInt16.toUInt32.toInt32) gC h0 n0 (by first | omega | exact own_ne (by omega) | exact own_le (by omega) | exact own_lt (by omega)) O SC hgC (own_chr _) (own_chr _)) hZ (hw _ (List.mem_of_getElem? (i := 105) rfl)) (hw _ (List.mem_of_getElem? (i := 5) rfl)) (by decide) (by decide)) (g := (mkF m 50 #[.val (.int va), .val (.int (own_ch va)), .val (.int (own_ch8 va))] [(.int ((((va.toUInt32 >>> ((18 : Int32) &&& 31).toUInt32).toInt32) &&& (255 : Int32)).toUInt32.toUInt16.toUInt32.toInt32)), (.int (own_ch8 va))])) rfl (by rw [hml]; rfl) (argsL := [(.int (own_ch8 va)), (.int ((((va.toUInt32 >>> ((18 : Int32) &&& 31).toUInt32).toInt32) &&& (255 : Int32)).toUInt32.toUInt16.toUInt32.toInt32))]) (rest := []) (lenOf pd__CC_Ljava_lang_String_ rfl) rfl (by show 2 * 0 + _ ≤ _; exact Nat.le_of_eq rfl) (hb hby d13_50) (fun _ _ => ⟨rfl, e0, (by decide : 0 + 3 ≤ _), (by decide : 0 + 8 ≤ _)⟩)
      dsimp only [Pt.U, Pt.locs, Pt.cells, Pt.slots] at X4 l4 y4 z4 st4 hQ4
      subst l4 y4 z4
      obtain ⟨b4, rfl, N4q, lo4, K4, S4⟩ := hQ4
      have lo4 := own_nle lo4
      have N4 := Fr.app N0 N4q
      have hi4 := own_nlt (S4.exa.lt)
      have sz4 := K4.1
      refine go_of (B := (T4.setTop (mkF m 53 #[.val (.int va), .val (.int (own_ch va)), .val (.int (own_ch8 va))] [(.ref b4)]))) (st4) ?_
      refine go_end X4 (v := some (.ref b4)) (fun h => by rw [Bd.returns] at h; cases h) Bd.notSynchronized (by decide) (by decide) (Q := (Q_rm13 Z va gC h0 n0)) ?_ (fun fs hr => own_retA X4 hx Bd.returns rfl rfl (hb hby d13_53) hr)
      show (fun (v : Option Value) (h : Heap) (L : List Loc) => ∃ t : Addr, v = some (.ref t) ∧ Fr n0 L ∧ h0.size ≤ t ∧ Keep h0 h [] ∧ StrL Z h t (own_th va)) (some (.ref b4)) T4.heap _
      refine ⟨b4, rfl, N4, by omega, ((Keep.refl h0 []).trans K4 all0), ?_⟩
      unfold own_th; simp only [hc1, hc2, if_true, if_false, ↓reduceIte]
      exact S4
  · refine go_of (B := (s₁.setTop (mkF m 26 #[.val (.int va), .val (.int (own_ch va)), .val (.int (own_ch8 va))] []))) (fun _ kk => XS.ifNo X0.here hx rfl (hb hby d13_23) rfl ((if0 _ _).trans (feq hc1).1) kk) ?_
    refine go_of (B := (s₁.setTop (mkF m 27 #[.val (.int va), .val (.int (own_ch va)), .val (.int (own_ch8 va))] [(.int (own_ch va))]))) (fun _ kk => XS.iloadN X0.here hx rfl (hb hby d13_26) rfl kk) ?_
    obtain ⟨_, _, ⟨T5, L5, k5, n5⟩, -, X5, ⟨Lc5, hQ5, l5, y5, z5⟩, st5⟩ := Jvm.LawKit.callS X0 hx (y := (⟨"com/example/sure_paths/surepaths/model/ExistentialToClassEqualsPinLaw", "one", "(C)Ljava/lang/String;"⟩ : MethodName)) hown (mvT hZ (hw _ (List.mem_of_getElem? (i := 7) rfl))) (mvT hZ (hw _ (List.mem_of_getElem? (i := 8) rfl))) (mvT hZ (hw _ (List.mem_of_getElem? (i := 5) rfl))) (mvT hZ (hw _ (List.mem_of_getElem? (i := 9) rfl))) (by decide) (backOf (W := 0) (rm2 l Z a0 hw [] (own_ch va) gC h0 n0 (by first | omega | exact own_ne (by omega) | exact own_le (by omega) | exact own_lt (by omega)) O SC hgC (own_chr va)) hZ (hw _ (List.mem_of_getElem? (i := 9) rfl)) (hw _ (List.mem_of_getElem? (i := 5) rfl)) (by decide) (by decide)) (g := (mkF m 27 #[.val (.int va), .val (.int (own_ch va)), .val (.int (own_ch8 va))] [(.int (own_ch va))])) rfl (by rw [hml]; rfl) (argsL := [(.int (own_ch va))]) (rest := []) (lenOf pd__C_Ljava_lang_String_ rfl) rfl (by show 2 * 0 + _ ≤ _; exact Nat.le_of_eq rfl) (hb hby d13_27) (fun _ _ => ⟨rfl, e0, (by decide : 0 + 3 ≤ _), (by decide : 0 + 6 ≤ _)⟩)
    dsimp only [Pt.U, Pt.locs, Pt.cells, Pt.slots] at X5 l5 y5 z5 st5 hQ5
    subst l5 y5 z5
    obtain ⟨b5, rfl, N5q, lo5, K5, S5⟩ := hQ5
    have lo5 := own_nle lo5
    have N5 := Fr.app N0 N5q
    have hi5 := own_nlt (S5.exa.lt)
    have sz5 := K5.1
    refine go_of (B := (T5.setTop (mkF m 30 #[.val (.int va), .val (.int (own_ch va)), .val (.int (own_ch8 va))] [(.ref b5)]))) (st5) ?_
    refine go_end X5 (v := some (.ref b5)) (fun h => by rw [Bd.returns] at h; cases h) Bd.notSynchronized (by decide) (by decide) (Q := (Q_rm13 Z va gC h0 n0)) ?_ (fun fs hr => own_retA X5 hx Bd.returns rfl rfl (hb hby d13_30) hr)
    show (fun (v : Option Value) (h : Heap) (L : List Loc) => ∃ t : Addr, v = some (.ref t) ∧ Fr n0 L ∧ h0.size ≤ t ∧ Keep h0 h [] ∧ StrL Z h t (own_th va)) (some (.ref b5)) T5.heap _
    refine ⟨b5, rfl, N5, by omega, ((Keep.refl h0 []).trans K5 all0), ?_⟩
    unfold own_th; simp only [hc1, if_true, if_false, ↓reduceIte]
    exact S5
theorem d14_0 : decode method_6_code 0 = .ok (.iload_n 0, 1) := by decide +kernel
theorem d14_1 : decode method_6_code 1 = .ok (.bipush 16, 2) := by decide +kernel
theorem d14_3 : decode method_6_code 3 = .ok (.iushr, 1) := by decide +kernel
theorem d14_4 : decode method_6_code 4 = .ok (.iconst 1, 1) := by decide +kernel
theorem d14_5 : decode method_6_code 5 = .ok (.iand, 1) := by decide +kernel
theorem d14_6 : decode method_6_code 6 = .ok (.ifCond .eq 5, 3) := by decide +kernel
theorem d14_11 : decode method_6_code 11 = .ok (.iload_n 0, 1) := by decide +kernel
theorem d14_12 : decode method_6_code 12 = .ok (.bipush 17, 2) := by decide +kernel
theorem d14_14 : decode method_6_code 14 = .ok (.iushr, 1) := by decide +kernel
theorem d14_15 : decode method_6_code 15 = .ok (.iconst 1, 1) := by decide +kernel
theorem d14_16 : decode method_6_code 16 = .ok (.iand, 1) := by decide +kernel
theorem d14_17 : decode method_6_code 17 = .ok (.ifCond .eq 5, 3) := by decide +kernel
theorem d14_22 : decode method_6_code 22 = .ok (.iload_n 0, 1) := by decide +kernel
theorem d14_23 : decode method_6_code 23 = .ok (.sipush 255, 3) := by decide +kernel
theorem d14_26 : decode method_6_code 26 = .ok (.iand, 1) := by decide +kernel
theorem d14_27 : decode method_6_code 27 = .ok (.iload_n 0, 1) := by decide +kernel
theorem d14_28 : decode method_6_code 28 = .ok (.bipush 8, 2) := by decide +kernel
theorem d14_30 : decode method_6_code 30 = .ok (.iushr, 1) := by decide +kernel
theorem d14_31 : decode method_6_code 31 = .ok (.sipush 255, 3) := by decide +kernel
theorem d14_34 : decode method_6_code 34 = .ok (.iand, 1) := by decide +kernel
theorem d14_35 : decode method_6_code 35 = .ok (.if_icmp .ne 7, 3) := by decide +kernel
theorem d14_38 : decode method_6_code 38 = .ok (.iconst 1, 1) := by decide +kernel
theorem d14_39 : decode method_6_code 39 = .ok (.goto 4, 3) := by decide +kernel
theorem d14_43 : decode method_6_code 43 = .ok (.ireturn, 1) := by decide +kernel
def Q_rm14 (Z : State) (va : Int32) (h0 : Heap) (n0 : Nat) (v : Option Value) (h : Heap) (L : List Loc) : Prop := v = some (.int (own_exp va)) ∧ Fr n0 L ∧ h = h0
theorem d14_42 : decode method_6_code 42 = .ok (.iconst 0, 1) := by decide +kernel
theorem d14_20 : decode method_6_code 20 = .ok (.iconst 0, 1) := by decide +kernel
theorem d14_21 : decode method_6_code 21 = .ok (.ireturn, 1) := by decide +kernel
theorem d14_9 : decode method_6_code 9 = .ok (.iconst 1, 1) := by decide +kernel
theorem d14_10 : decode method_6_code 10 = .ok (.ireturn, 1) := by decide +kernel
theorem ef_rm14 (m : MethodId) (va : Int32)  : entryFrame m #[(.int va)] 1 = mkF m 0 #[.val (.int va)] [] := by first | (simp [entryFrame, mkF, argsToLocals, Value.category]; done) | rfl
set_option maxRecDepth 65536 in
set_option maxHeartbeats 40000000 in
theorem rm14 (l : Launch) (Z : State) (a0 : Array Value) (hw : ∀ d ∈ tables_1, d.before a0 Z = true) (ws : List Jvm.Cond) (va : Int32) (h0 : Heap) (n0 : Nat) (Z0 : n0 ≤ h0.size)  :
    MetFree l (⟨"com/example/sure_paths/surepaths/model/ExistentialToClassEqualsPinLaw", "expectSame", "(I)Z"⟩ : MethodName) (head1 (Jvm.Cond.code (⟨"com/example/sure_paths/surepaths/model/ExistentialToClassEqualsPinLaw", "expectSame", "(I)Z"⟩ : MethodName) method_6_code 1 (some .boolean) :: ws) ({ frames := 0, cells := 0, slots := 0, locals := 0 } : Room)) (fun aa' U1' => aa' = #[(.int va)] ∧ Z.Warmed39 U1'.vm ∧ U1'.heap = h0) (fun _ _ _ _ _ => True) (fun _ U1' oo' U2' => ∃ vv' LL', oo' = .returned vv' ∧ (Q_rm14 Z va h0 n0) vv' U2'.heap LL' ∧ FrameEnd U1' oo' U2' LL' ({ frames := 0, cells := 0, slots := 0, locals := 0 } : Room).cells ({ frames := 0, cells := 0, slots := 0, locals := 0 } : Room).slots) := by
  refine MetFree.of_bodySF (plainFor_of_name pn_com_example_sure_paths_surepaths_model_ExistentialToClassEqualsPinLaw) hisR ?_
  intro p e s m args below meth c s₁ Bd hml0 hP hK
  obtain ⟨rfl, hZ, hh⟩ := hP
  have hx := Bd.exec
  have hby := Bd.bytes
  have hml : c.maxLocals = 1 := hml0
  have hown : s.vm.findClass "com/example/sure_paths/surepaths/model/ExistentialToClassEqualsPinLaw" = some m.cls := findClass_of_methodNamed Bd.named
  have hnm := (name_of_methodNamed Bd.named Bd.method).1
  have X0 : Stand p l e ({ frames := 0, cells := 0, slots := 0, locals := 0 } : Room) s m #[(.int va)] below meth c s₁ [] 0 0 := Stand.of_body Bd
  have e0 : s₁.heap = h0 := by rw [← hh, Bd.state]; rfl
  have N0 := Fr.nil n0
  refine go_of (A := s₁.setTop (entryFrame m #[(.int va)] 1)) (B := s₁.setTop (mkF m 0 #[.val (.int va)] [])) (fun _ kk' => castTop (ef_rm14 m va) kk') ?_
  refine go_of (B := (s₁.setTop (mkF m 1 #[.val (.int va)] [(.int va)]))) (fun _ kk => XS.iloadN X0.here hx rfl (hb hby d14_0) rfl kk) ?_
  refine go_of (B := (s₁.setTop (mkF m 3 #[.val (.int va)] [(.int (16 : Int32)), (.int va)]))) (fun _ kk => XS.bipush X0.here hx rfl (hb hby d14_1) kk) ?_
  refine go_of (B := (s₁.setTop (mkF m 4 #[.val (.int va)] [(.int ((va.toUInt32 >>> ((16 : Int32) &&& 31).toUInt32).toInt32))]))) (fun _ kk => XS.iushr X0.here hx rfl (hb hby d14_3) rfl kk) ?_
  refine go_of (B := (s₁.setTop (mkF m 5 #[.val (.int va)] [(.int (1 : Int32)), (.int ((va.toUInt32 >>> ((16 : Int32) &&& 31).toUInt32).toInt32))]))) (fun _ kk => XS.iconst X0.here hx rfl (hb hby d14_4) kk) ?_
  refine go_of (B := (s₁.setTop (mkF m 6 #[.val (.int va)] [(.int (((va.toUInt32 >>> ((16 : Int32) &&& 31).toUInt32).toInt32) &&& (1 : Int32)))]))) (fun _ kk => XS.iand X0.here hx rfl (hb hby d14_5) rfl kk) ?_
  by_cases hc1 : (((va.toUInt32 >>> ((16 : Int32) &&& 31).toUInt32).toInt32) &&& (1 : Int32)) = (0 : Int32)
  · refine go_of (B := (s₁.setTop (mkF m 11 #[.val (.int va)] []))) (fun _ kk => XS.ifYes X0.here hx rfl (pc0 := 6) (pc' := 11) rfl (hb hby d14_6) rfl ((if0 _ _).trans (teq hc1).1) (by decide) (by decide) kk) ?_
    refine go_of (B := (s₁.setTop (mkF m 12 #[.val (.int va)] [(.int va)]))) (fun _ kk => XS.iloadN X0.here hx rfl (hb hby d14_11) rfl kk) ?_
    refine go_of (B := (s₁.setTop (mkF m 14 #[.val (.int va)] [(.int (17 : Int32)), (.int va)]))) (fun _ kk => XS.bipush X0.here hx rfl (hb hby d14_12) kk) ?_
    refine go_of (B := (s₁.setTop (mkF m 15 #[.val (.int va)] [(.int ((va.toUInt32 >>> ((17 : Int32) &&& 31).toUInt32).toInt32))]))) (fun _ kk => XS.iushr X0.here hx rfl (hb hby d14_14) rfl kk) ?_
    refine go_of (B := (s₁.setTop (mkF m 16 #[.val (.int va)] [(.int (1 : Int32)), (.int ((va.toUInt32 >>> ((17 : Int32) &&& 31).toUInt32).toInt32))]))) (fun _ kk => XS.iconst X0.here hx rfl (hb hby d14_15) kk) ?_
    refine go_of (B := (s₁.setTop (mkF m 17 #[.val (.int va)] [(.int (((va.toUInt32 >>> ((17 : Int32) &&& 31).toUInt32).toInt32) &&& (1 : Int32)))]))) (fun _ kk => XS.iand X0.here hx rfl (hb hby d14_16) rfl kk) ?_
    by_cases hc2 : (((va.toUInt32 >>> ((17 : Int32) &&& 31).toUInt32).toInt32) &&& (1 : Int32)) = (0 : Int32)
    · refine go_of (B := (s₁.setTop (mkF m 22 #[.val (.int va)] []))) (fun _ kk => XS.ifYes X0.here hx rfl (pc0 := 17) (pc' := 22) rfl (hb hby d14_17) rfl ((if0 _ _).trans (teq hc2).1) (by decide) (by decide) kk) ?_
      refine go_of (B := (s₁.setTop (mkF m 23 #[.val (.int va)] [(.int va)]))) (fun _ kk => XS.iloadN X0.here hx rfl (hb hby d14_22) rfl kk) ?_
      refine go_of (B := (s₁.setTop (mkF m 26 #[.val (.int va)] [(.int (255 : Int32)), (.int va)]))) (fun _ kk => XS.sipush X0.here hx rfl (hb hby d14_23) kk) ?_
      refine go_of (B := (s₁.setTop (mkF m 27 #[.val (.int va)] [(.int (va &&& (255 : Int32)))]))) (fun _ kk => XS.iand X0.here hx rfl (hb hby d14_26) rfl kk) ?_
      refine go_of (B := (s₁.setTop (mkF m 28 #[.val (.int va)] [(.int va), (.int (va &&& (255 : Int32)))]))) (fun _ kk => XS.iloadN X0.here hx rfl (hb hby d14_27) rfl kk) ?_
      refine go_of (B := (s₁.setTop (mkF m 30 #[.val (.int va)] [(.int (8 : Int32)), (.int va), (.int (va &&& (255 : Int32)))]))) (fun _ kk => XS.bipush X0.here hx rfl (hb hby d14_28) kk) ?_
      refine go_of (B := (s₁.setTop (mkF m 31 #[.val (.int va)] [(.int ((va.toUInt32 >>> ((8 : Int32) &&& 31).toUInt32).toInt32)), (.int (va &&& (255 : Int32)))]))) (fun _ kk => XS.iushr X0.here hx rfl (hb hby d14_30) rfl kk) ?_
      refine go_of (B := (s₁.setTop (mkF m 34 #[.val (.int va)] [(.int (255 : Int32)), (.int ((va.toUInt32 >>> ((8 : Int32) &&& 31).toUInt32).toInt32)), (.int (va &&& (255 : Int32)))]))) (fun _ kk => XS.sipush X0.here hx rfl (hb hby d14_31) kk) ?_
      refine go_of (B := (s₁.setTop (mkF m 35 #[.val (.int va)] [(.int (((va.toUInt32 >>> ((8 : Int32) &&& 31).toUInt32).toInt32) &&& (255 : Int32))), (.int (va &&& (255 : Int32)))]))) (fun _ kk => XS.iand X0.here hx rfl (hb hby d14_34) rfl kk) ?_
      by_cases hc3 : (va &&& (255 : Int32)) = (((va.toUInt32 >>> ((8 : Int32) &&& 31).toUInt32).toInt32) &&& (255 : Int32))
      · refine go_of (B := (s₁.setTop (mkF m 38 #[.val (.int va)] []))) (fun _ kk => XS.icmpNo X0.here hx rfl (hb hby d14_35) rfl (teq hc3).2 kk) ?_
        refine go_of (B := (s₁.setTop (mkF m 39 #[.val (.int va)] [(.int (1 : Int32))]))) (fun _ kk => XS.iconst X0.here hx rfl (hb hby d14_38) kk) ?_
        refine go_of (B := (s₁.setTop (mkF m 43 #[.val (.int va)] [(.int (1 : Int32))]))) (fun _ kk => XS.goto X0.here hx rfl (pc0 := 39) (pc' := 43) rfl (hb hby d14_39) (by decide) (by decide) kk) ?_
        refine go_end X0 (v := some (.int (nar .boolean (1 : Int32)))) (fun h => by rw [Bd.returns] at h; cases h) Bd.notSynchronized (by decide) (by decide) (Q := (Q_rm14 Z va h0 n0)) ?_ (fun fs hr => retN X0 hx (t := .boolean) Bd.returns (by simp) (hb hby d14_43) hr)
        show (fun (v : Option Value) (h : Heap) (L : List Loc) => v = some (.int (own_exp va)) ∧ Fr n0 L ∧ h = h0) (some (.int (nar .boolean (1 : Int32)))) s₁.heap _
        rw [e0]
        refine ⟨?_, N0, rfl⟩
        simp only [own_exp, hc1, hc2, hc3, ↓reduceIte]; rfl
      · refine go_of (B := (s₁.setTop (mkF m 42 #[.val (.int va)] []))) (fun _ kk => XS.icmpYes X0.here hx rfl (pc0 := 35) (pc' := 42) rfl (hb hby d14_35) rfl (feq hc3).2 (by decide) (by decide) kk) ?_
        refine go_of (B := (s₁.setTop (mkF m 43 #[.val (.int va)] [(.int (0 : Int32))]))) (fun _ kk => XS.iconst X0.here hx rfl (hb hby d14_42) kk) ?_
        refine go_end X0 (v := some (.int (nar .boolean (0 : Int32)))) (fun h => by rw [Bd.returns] at h; cases h) Bd.notSynchronized (by decide) (by decide) (Q := (Q_rm14 Z va h0 n0)) ?_ (fun fs hr => retN X0 hx (t := .boolean) Bd.returns (by simp) (hb hby d14_43) hr)
        show (fun (v : Option Value) (h : Heap) (L : List Loc) => v = some (.int (own_exp va)) ∧ Fr n0 L ∧ h = h0) (some (.int (nar .boolean (0 : Int32)))) s₁.heap _
        rw [e0]
        refine ⟨?_, N0, rfl⟩
        simp only [own_exp, hc1, hc2, hc3, ↓reduceIte]; rfl
    · refine go_of (B := (s₁.setTop (mkF m 20 #[.val (.int va)] []))) (fun _ kk => XS.ifNo X0.here hx rfl (hb hby d14_17) rfl ((if0 _ _).trans (feq hc2).1) kk) ?_
      refine go_of (B := (s₁.setTop (mkF m 21 #[.val (.int va)] [(.int (0 : Int32))]))) (fun _ kk => XS.iconst X0.here hx rfl (hb hby d14_20) kk) ?_
      refine go_end X0 (v := some (.int (nar .boolean (0 : Int32)))) (fun h => by rw [Bd.returns] at h; cases h) Bd.notSynchronized (by decide) (by decide) (Q := (Q_rm14 Z va h0 n0)) ?_ (fun fs hr => retN X0 hx (t := .boolean) Bd.returns (by simp) (hb hby d14_21) hr)
      show (fun (v : Option Value) (h : Heap) (L : List Loc) => v = some (.int (own_exp va)) ∧ Fr n0 L ∧ h = h0) (some (.int (nar .boolean (0 : Int32)))) s₁.heap _
      rw [e0]
      refine ⟨?_, N0, rfl⟩
      simp only [own_exp, hc1, hc2, ↓reduceIte]; rfl
  · refine go_of (B := (s₁.setTop (mkF m 9 #[.val (.int va)] []))) (fun _ kk => XS.ifNo X0.here hx rfl (hb hby d14_6) rfl ((if0 _ _).trans (feq hc1).1) kk) ?_
    refine go_of (B := (s₁.setTop (mkF m 10 #[.val (.int va)] [(.int (1 : Int32))]))) (fun _ kk => XS.iconst X0.here hx rfl (hb hby d14_9) kk) ?_
    refine go_end X0 (v := some (.int (nar .boolean (1 : Int32)))) (fun h => by rw [Bd.returns] at h; cases h) Bd.notSynchronized (by decide) (by decide) (Q := (Q_rm14 Z va h0 n0)) ?_ (fun fs hr => retN X0 hx (t := .boolean) Bd.returns (by simp) (hb hby d14_10) hr)
    show (fun (v : Option Value) (h : Heap) (L : List Loc) => v = some (.int (own_exp va)) ∧ Fr n0 L ∧ h = h0) (some (.int (nar .boolean (1 : Int32)))) s₁.heap _
    rw [e0]
    refine ⟨?_, N0, rfl⟩
    simp only [own_exp, hc1, ↓reduceIte]; rfl
theorem d10_0 : decode jdk_31_method_11_code 0 = .ok (.aload_n 0, 1) := by decide +kernel
theorem d10_1 : decode jdk_31_method_11_code 1 = .ok (.ifnonnull 12, 3) := by decide +kernel
theorem d10_13 : decode jdk_31_method_11_code 13 = .ok (.aload_n 0, 1) := by decide +kernel
theorem d10_14 : decode jdk_31_method_11_code 14 = .ok (.areturn, 1) := by decide +kernel
def Q_rm10 (Z : State) (a : Addr) (bb : Addr) (h0 : Heap) (n0 : Nat) (v : Option Value) (h : Heap) (L : List Loc) : Prop := v = some (.ref a) ∧ Fr n0 L ∧ h = h0
theorem pn_java_util_Objects : plainName "java/util/Objects" = true := by first | (simp [plainName, overriddenIn]; done) | decide +kernel
theorem ef_rm10 (m : MethodId) (a : Addr) (bb : Addr)  : entryFrame m #[(.ref a), (.ref bb)] 2 = mkF m 0 #[.val (.ref a), .val (.ref bb)] [] := by first | (simp [entryFrame, mkF, argsToLocals, Value.category]; done) | rfl
set_option maxRecDepth 65536 in
set_option maxHeartbeats 40000000 in
theorem rm10 (l : Launch) (Z : State) (a0 : Array Value) (hw : ∀ d ∈ tables_1, d.before a0 Z = true) (ws : List Jvm.Cond) (a : Addr) (bb : Addr) (h0 : Heap) (n0 : Nat) (Z0 : n0 ≤ h0.size)  :
    MetFree l (⟨"java/util/Objects", "requireNonNull", "(Ljava/lang/Object;Ljava/lang/String;)Ljava/lang/Object;"⟩ : MethodName) (head1 (Jvm.Cond.code (⟨"java/util/Objects", "requireNonNull", "(Ljava/lang/Object;Ljava/lang/String;)Ljava/lang/Object;"⟩ : MethodName) jdk_31_method_11_code 2 (some (.object "java/lang/Object")) :: ws) ({ frames := 0, cells := 0, slots := 0, locals := 0 } : Room)) (fun aa' U1' => aa' = #[(.ref a), (.ref bb)] ∧ Z.Warmed39 U1'.vm ∧ U1'.heap = h0) (fun _ _ _ _ _ => True) (fun _ U1' oo' U2' => ∃ vv' LL', oo' = .returned vv' ∧ (Q_rm10 Z a bb h0 n0) vv' U2'.heap LL' ∧ FrameEnd U1' oo' U2' LL' ({ frames := 0, cells := 0, slots := 0, locals := 0 } : Room).cells ({ frames := 0, cells := 0, slots := 0, locals := 0 } : Room).slots) := by
  refine MetFree.of_bodySF (plainFor_of_name pn_java_util_Objects) hisR ?_
  intro p e s m args below meth c s₁ Bd hml0 hP hK
  obtain ⟨rfl, hZ, hh⟩ := hP
  have hx := Bd.exec
  have hby := Bd.bytes
  have hml : c.maxLocals = 2 := hml0
  have hown : s.vm.findClass "java/util/Objects" = some m.cls := findClass_of_methodNamed Bd.named
  have hnm := (name_of_methodNamed Bd.named Bd.method).1
  have X0 : Stand p l e ({ frames := 0, cells := 0, slots := 0, locals := 0 } : Room) s m #[(.ref a), (.ref bb)] below meth c s₁ [] 0 0 := Stand.of_body Bd
  have e0 : s₁.heap = h0 := by rw [← hh, Bd.state]; rfl
  have N0 := Fr.nil n0
  refine go_of (A := s₁.setTop (entryFrame m #[(.ref a), (.ref bb)] 2)) (B := s₁.setTop (mkF m 0 #[.val (.ref a), .val (.ref bb)] [])) (fun _ kk' => castTop (ef_rm10 m a bb) kk') ?_
  refine go_of (B := (s₁.setTop (mkF m 1 #[.val (.ref a), .val (.ref bb)] [(.ref a)]))) (fun _ kk => XS.aloadN X0.here hx rfl (hb hby d10_0) rfl rfl kk) ?_
  refine go_of (B := (s₁.setTop (mkF m 13 #[.val (.ref a), .val (.ref bb)] []))) (fun _ kk => XS.ifnonnullYes X0.here hx rfl (pc0 := 1) (pc' := 13) rfl (hb hby d10_1) rfl (by decide) (by decide) kk) ?_
  refine go_of (B := (s₁.setTop (mkF m 14 #[.val (.ref a), .val (.ref bb)] [(.ref a)]))) (fun _ kk => XS.aloadN X0.here hx rfl (hb hby d10_13) rfl rfl kk) ?_
  refine go_end X0 (v := some (.ref a)) (fun h => by rw [Bd.returns] at h; cases h) Bd.notSynchronized (by decide) (by decide) (Q := (Q_rm10 Z a bb h0 n0)) ?_ (fun fs hr => own_retA X0 hx Bd.returns rfl rfl (hb hby d10_14) hr)
  show (fun (v : Option Value) (h : Heap) (L : List Loc) => v = some (.ref a) ∧ Fr n0 L ∧ h = h0) (some (.ref a)) s₁.heap _
  rw [e0]
  exact ⟨rfl, N0, rfl⟩
def OT (Z : State) (h : Heap) (a p1 p2 p3 : Addr) : Prop := Exa Z h a "com/example/sure_paths/surepaths/model/ExistentialToClass" ∧ Fld Z h a "com/example/sure_paths/surepaths/model/ExistentialToClass" "property" "Ljava/lang/String;" (.ref p1) ∧ Fld Z h a "com/example/sure_paths/surepaths/model/ExistentialToClass" "filler" "Ljava/lang/String;" (.ref p2) ∧ Fld Z h a "com/example/sure_paths/surepaths/model/ExistentialToClass" "superClass" "Ljava/lang/String;" (.ref p3)
def OC (Z : State) (h : Heap) (a p1 p2 p3 : Addr) : Prop := Exa Z h a "com/example/sure_paths/surepaths/model/ClassToExistential" ∧ Fld Z h a "com/example/sure_paths/surepaths/model/ClassToExistential" "subClass" "Ljava/lang/String;" (.ref p1) ∧ Fld Z h a "com/example/sure_paths/surepaths/model/ClassToExistential" "property" "Ljava/lang/String;" (.ref p2) ∧ Fld Z h a "com/example/sure_paths/surepaths/model/ClassToExistential" "filler" "Ljava/lang/String;" (.ref p3)
theorem d9_0 : decode prog_36_method_1_code 0 = .ok (.aload_n 0, 1) := by decide +kernel
theorem d9_1 : decode prog_36_method_1_code 1 = .ok (.invokespecial 1, 3) := by decide +kernel
theorem d9_4 : decode prog_36_method_1_code 4 = .ok (.aload_n 0, 1) := by decide +kernel
theorem d9_5 : decode prog_36_method_1_code 5 = .ok (.aload_n 1, 1) := by decide +kernel
theorem d9_6 : decode prog_36_method_1_code 6 = .ok (.ldc 7, 2) := by decide +kernel
theorem d9_8 : decode prog_36_method_1_code 8 = .ok (.invokestatic 9, 3) := by decide +kernel
theorem pd__Ljava_lang_Object_Ljava_lang_String__Ljava_lang_Object_ : parseMethodDescriptor "(Ljava/lang/Object;Ljava/lang/String;)Ljava/lang/Object;" = some ⟨[(.object "java/lang/Object"), (.object "java/lang/String")], some (.object "java/lang/Object")⟩ := by decide +kernel
theorem d9_11 : decode prog_36_method_1_code 11 = .ok (.checkcast 15, 3) := by decide +kernel
theorem d9_14 : decode prog_36_method_1_code 14 = .ok (.putfield 17, 3) := by decide +kernel
theorem d9_17 : decode prog_36_method_1_code 17 = .ok (.aload_n 0, 1) := by decide +kernel
theorem d9_18 : decode prog_36_method_1_code 18 = .ok (.aload_n 2, 1) := by decide +kernel
theorem d9_19 : decode prog_36_method_1_code 19 = .ok (.ldc 22, 2) := by decide +kernel
theorem d9_21 : decode prog_36_method_1_code 21 = .ok (.invokestatic 9, 3) := by decide +kernel
theorem d9_24 : decode prog_36_method_1_code 24 = .ok (.checkcast 15, 3) := by decide +kernel
theorem d9_27 : decode prog_36_method_1_code 27 = .ok (.putfield 24, 3) := by decide +kernel
theorem d9_30 : decode prog_36_method_1_code 30 = .ok (.aload_n 0, 1) := by decide +kernel
theorem d9_31 : decode prog_36_method_1_code 31 = .ok (.aload_n 3, 1) := by decide +kernel
theorem d9_32 : decode prog_36_method_1_code 32 = .ok (.ldc 26, 2) := by decide +kernel
theorem d9_34 : decode prog_36_method_1_code 34 = .ok (.invokestatic 9, 3) := by decide +kernel
theorem d9_37 : decode prog_36_method_1_code 37 = .ok (.checkcast 15, 3) := by decide +kernel
theorem d9_40 : decode prog_36_method_1_code 40 = .ok (.putfield 28, 3) := by decide +kernel
theorem d9_43 : decode prog_36_method_1_code 43 = .ok (.return_, 1) := by decide +kernel
def Q_rm9 (Z : State) (a : Addr) (p1 : Addr) (p2 : Addr) (p3 : Addr) (u1 : Value) (u2 : Value) (u3 : Value) (h0 : Heap) (n0 : Nat) (v : Option Value) (h : Heap) (L : List Loc) : Prop := v = none ∧ Fr n0 L ∧ Keep h0 h [a] ∧ OT Z h a p1 p2 p3
theorem pn_com_example_sure_paths_surepaths_model_ExistentialToClass : plainName "com/example/sure_paths/surepaths/model/ExistentialToClass" = true := by first | (simp [plainName, overriddenIn]; done) | decide +kernel
theorem ef_rm9 (m : MethodId) (a : Addr) (p1 : Addr) (p2 : Addr) (p3 : Addr)  : entryFrame m #[(.ref a), (.ref p1), (.ref p2), (.ref p3)] 4 = mkF m 0 #[.val (.ref a), .val (.ref p1), .val (.ref p2), .val (.ref p3)] [] := by first | (simp [entryFrame, mkF, argsToLocals, Value.category]; done) | rfl
set_option maxRecDepth 65536 in
set_option maxHeartbeats 40000000 in
theorem rm9 (l : Launch) (Z : State) (a0 : Array Value) (hw : ∀ d ∈ tables_1, d.before a0 Z = true) (ws : List Jvm.Cond) (a : Addr) (p1 : Addr) (p2 : Addr) (p3 : Addr) (u1 : Value) (u2 : Value) (u3 : Value) (h0 : Heap) (n0 : Nat) (Z0 : n0 ≤ h0.size) (E : Exa Z h0 a "com/example/sure_paths/surepaths/model/ExistentialToClass") (F1 : Fld Z h0 a "com/example/sure_paths/surepaths/model/ExistentialToClass" "property" "Ljava/lang/String;" u1) (F2 : Fld Z h0 a "com/example/sure_paths/surepaths/model/ExistentialToClass" "filler" "Ljava/lang/String;" u2) (F3 : Fld Z h0 a "com/example/sure_paths/surepaths/model/ExistentialToClass" "superClass" "Ljava/lang/String;" u3) (g : n0 ≤ a) (Ep1 : Exa Z h0 p1 "java/lang/String") (Ep2 : Exa Z h0 p2 "java/lang/String") (Ep3 : Exa Z h0 p3 "java/lang/String") :
    MetFree l (⟨"com/example/sure_paths/surepaths/model/ExistentialToClass", "<init>", "(Ljava/lang/String;Ljava/lang/String;Ljava/lang/String;)V"⟩ : MethodName) (head1 (Jvm.Cond.code (⟨"com/example/sure_paths/surepaths/model/ExistentialToClass", "<init>", "(Ljava/lang/String;Ljava/lang/String;Ljava/lang/String;)V"⟩ : MethodName) prog_36_method_1_code 4 none :: ws) ({ frames := 1, cells := 6, slots := 108, locals := 14 } : Room)) (fun aa' U1' => aa' = #[(.ref a), (.ref p1), (.ref p2), (.ref p3)] ∧ Z.Warmed39 U1'.vm ∧ U1'.heap = h0) (fun _ _ _ _ _ => True) (fun _ U1' oo' U2' => ∃ vv' LL', oo' = .returned vv' ∧ (Q_rm9 Z a p1 p2 p3 u1 u2 u3 h0 n0) vv' U2'.heap LL' ∧ ReturnedEndW U1' oo' U2' LL' ({ frames := 1, cells := 6, slots := 108, locals := 14 } : Room).cells ({ frames := 1, cells := 6, slots := 108, locals := 14 } : Room).slots) := by
  refine MetFree.of_bodySF (plainFor_of_name pn_com_example_sure_paths_surepaths_model_ExistentialToClass) hisR ?_
  intro p e s m args below meth c s₁ Bd hml0 hP hK
  obtain ⟨rfl, hZ, hh⟩ := hP
  have hx := Bd.exec
  have hby := Bd.bytes
  have hml : c.maxLocals = 4 := hml0
  have hown : s.vm.findClass "com/example/sure_paths/surepaths/model/ExistentialToClass" = some m.cls := findClass_of_methodNamed Bd.named
  have hnm := (name_of_methodNamed Bd.named Bd.method).1
  have X0 : Stand p l e ({ frames := 1, cells := 6, slots := 108, locals := 14 } : Room) (s.setVm s.vm) m #[(.ref a), (.ref p1), (.ref p2), (.ref p3)] below meth c s₁ [] 0 0 := Stand.of_body Bd
  have e0 : s₁.heap = h0 := by rw [← hh, Bd.state]; rfl
  have N0 := Fr.nil n0
  have hS : s.Since s.vm 0 := (State.WarmedH.refl s).since 0
  have lta := own_nlt (E.lt)
  have lt1 := own_nlt (Ep1.lt)
  have lt2 := own_nlt (Ep2.lt)
  have lt3 := own_nlt (Ep3.lt)
  refine go_of (A := s₁.setTop (entryFrame m #[(.ref a), (.ref p1), (.ref p2), (.ref p3)] 4)) (B := s₁.setTop (mkF m 0 #[.val (.ref a), .val (.ref p1), .val (.ref p2), .val (.ref p3)] [])) (fun _ kk' => castTop (ef_rm9 m a p1 p2 p3) kk') ?_
  refine go_of (B := (s₁.setTop (mkF m 1 #[.val (.ref a), .val (.ref p1), .val (.ref p2), .val (.ref p3)] [(.ref a)]))) (fun _ kk => XS.aloadN X0.here hx rfl (hb hby d9_0) rfl rfl kk) ?_
  obtain ⟨T1, X1, e1, st1⟩ := initO X0 hx hZ hown (hw _ (List.mem_of_getElem? (i := 43) rfl)) (hw _ (List.mem_of_getElem? (i := 22) rfl)) (hw _ (List.mem_of_getElem? (i := 23) rfl)) e0 (g := (mkF m 1 #[.val (.ref a), .val (.ref p1), .val (.ref p2), .val (.ref p3)] [(.ref a)])) rfl (by rw [hml]; rfl) rfl (hb hby d9_1) (by decide) (W := 0) (by show 2 * 0 + _ ≤ _; exact Nat.le_of_eq rfl) (by decide)
  refine go_of (B := (T1.setTop (mkF m 4 #[.val (.ref a), .val (.ref p1), .val (.ref p2), .val (.ref p3)] []))) (st1) ?_
  refine go_of (B := (T1.setTop (mkF m 5 #[.val (.ref a), .val (.ref p1), .val (.ref p2), .val (.ref p3)] [(.ref a)]))) (fun _ kk => XS.aloadN X1.here hx rfl (hb hby d9_4) rfl rfl kk) ?_
  refine go_of (B := (T1.setTop (mkF m 6 #[.val (.ref a), .val (.ref p1), .val (.ref p2), .val (.ref p3)] [(.ref p1), (.ref a)]))) (fun _ kk => XS.aloadN X1.here hx rfl (hb hby d9_5) rfl rfl kk) ?_
  obtain ⟨b2, T2, h2, k2, X2, e2, E2, hS, hk2, hZ, hown, st2⟩ := ldcS X1 hx hZ hown (hw _ (List.mem_of_getElem? (i := 44) rfl)) (own_wS hw) e1 hS (by first | omega | exact own_ne (by omega) | exact own_le (by omega) | exact own_lt (by omega)) (g := (mkF m 6 #[.val (.ref a), .val (.ref p1), .val (.ref p2), .val (.ref p3)] [(.ref p1), (.ref a)])) rfl (hb hby d9_6) (n := 32) (by decide) (by decide) (by decide) (by decide)
  have sz2 := E2.1
  refine go_of (B := (T2.setTop (mkF m 8 #[.val (.ref a), .val (.ref p1), .val (.ref p2), .val (.ref p3)] [(.ref b2), (.ref p1), (.ref a)]))) (st2) ?_
  obtain ⟨_, _, ⟨T3, L3, k3, n3⟩, -, X3, ⟨Lc3, hQ3, l3, y3, z3⟩, st3⟩ := Jvm.LawKit.callS X2 hx (y := (⟨"java/util/Objects", "requireNonNull", "(Ljava/lang/Object;Ljava/lang/String;)Ljava/lang/Object;"⟩ : MethodName)) hown (mvT hZ (hw _ (List.mem_of_getElem? (i := 47) rfl))) (mvT hZ (hw _ (List.mem_of_getElem? (i := 48) rfl))) (mvT hZ (hw _ (List.mem_of_getElem? (i := 49) rfl))) (mvT hZ (hw _ (List.mem_of_getElem? (i := 50) rfl))) (by decide) (backOf (W := 1) (rm10 l Z a0 hw [] p1 b2 h2 n0 (by first | omega | exact own_ne (by omega) | exact own_le (by omega) | exact own_lt (by omega))) hZ (hw _ (List.mem_of_getElem? (i := 50) rfl)) (hw _ (List.mem_of_getElem? (i := 49) rfl)) (by decide) (by decide)) (g := (mkF m 8 #[.val (.ref a), .val (.ref p1), .val (.ref p2), .val (.ref p3)] [(.ref b2), (.ref p1), (.ref a)])) rfl (by rw [hml]; rfl) (argsL := [(.ref p1), (.ref b2)]) (rest := [(.ref a)]) (lenOf pd__Ljava_lang_Object_Ljava_lang_String__Ljava_lang_Object_ rfl) rfl (by show 2 * 0 + _ ≤ _; exact Nat.le_of_eq rfl) (hb hby d9_8) (fun _ _ => ⟨rfl, e2, (by decide : 2 + 0 ≤ _), (by decide : 36 + 0 ≤ _)⟩)
  dsimp only [Pt.U, Pt.locs, Pt.cells, Pt.slots] at X3 l3 y3 z3 st3 hQ3
  subst l3 y3 z3
  obtain ⟨rfl, N3q, e3⟩ := hQ3
  have N3 := Fr.app N0 N3q
  refine go_of (B := (T3.setTop (mkF m 11 #[.val (.ref a), .val (.ref p1), .val (.ref p2), .val (.ref p3)] [(.ref p1), (.ref a)]))) (st3) ?_
  have cf_5 := (Ep1.ext E2)
  obtain ⟨T4, X4, e4, st4⟩ := castY X3 hx hZ hown (hw _ (List.mem_of_getElem? (i := 51) rfl)) e3 (Ins.self cf_5) (g := (mkF m 11 #[.val (.ref a), .val (.ref p1), .val (.ref p2), .val (.ref p3)] [(.ref p1), (.ref a)])) rfl rfl (hb hby d9_11)
  refine go_of (B := (T4.setTop (mkF m 14 #[.val (.ref a), .val (.ref p1), .val (.ref p2), .val (.ref p3)] [(.ref p1), (.ref a)]))) (st4) ?_
  have cf_6 := (E.ext E2)
  have cf_7 := (F1.ext E2)
  obtain ⟨T8, h8, X8, e8, W8, st8⟩ := putF X4 hx hZ hown (host := "") (Or.inl (hw _ (List.mem_of_getElem? (i := 52) rfl))) Via.refl e4 cf_7 cf_6 (Or.inr ⟨(hw _ (List.mem_of_getElem? (i := 53) rfl)), rfl, hnm⟩) (hw _ (List.mem_of_getElem? (i := 1) rfl)) (ty := (.object "java/lang/String")) (by decide) rfl rfl (g := (mkF m 14 #[.val (.ref a), .val (.ref p1), .val (.ref p2), .val (.ref p3)] [(.ref p1), (.ref a)])) rfl rfl (hb hby d9_14)
  have sz8 := W8.size
  have Fw8 := cf_7.same W8
  have N8 := Fr.snoc X8 N3 (g : n0 ≤ a)
  refine go_of (B := (T8.setTop (mkF m 17 #[.val (.ref a), .val (.ref p1), .val (.ref p2), .val (.ref p3)] []))) (st8) ?_
  refine go_of (B := (T8.setTop (mkF m 18 #[.val (.ref a), .val (.ref p1), .val (.ref p2), .val (.ref p3)] [(.ref a)]))) (fun _ kk => XS.aloadN X8.here hx rfl (hb hby d9_17) rfl rfl kk) ?_
  refine go_of (B := (T8.setTop (mkF m 19 #[.val (.ref a), .val (.ref p1), .val (.ref p2), .val (.ref p3)] [(.ref p2), (.ref a)]))) (fun _ kk => XS.aloadN X8.here hx rfl (hb hby d9_18) rfl rfl kk) ?_
  obtain ⟨b9, T9, h9, k9, X9, e9, E9, hS, hk9, hZ, hown, st9⟩ := ldcS X8 hx hZ hown (hw _ (List.mem_of_getElem? (i := 54) rfl)) (own_wS hw) e8 hS (by first | omega | exact own_ne (by omega) | exact own_le (by omega) | exact own_lt (by omega)) (g := (mkF m 19 #[.val (.ref a), .val (.ref p1), .val (.ref p2), .val (.ref p3)] [(.ref p2), (.ref a)])) rfl (hb hby d9_19) (n := 24) (by decide) (by decide) (by decide) (by decide)
  have sz9 := E9.1
  refine go_of (B := (T9.setTop (mkF m 21 #[.val (.ref a), .val (.ref p1), .val (.ref p2), .val (.ref p3)] [(.ref b9), (.ref p2), (.ref a)]))) (st9) ?_
  obtain ⟨_, _, ⟨T10, L10, k10, n10⟩, -, X10, ⟨Lc10, hQ10, l10, y10, z10⟩, st10⟩ := Jvm.LawKit.callS X9 hx (y := (⟨"java/util/Objects", "requireNonNull", "(Ljava/lang/Object;Ljava/lang/String;)Ljava/lang/Object;"⟩ : MethodName)) hown (mvT hZ (hw _ (List.mem_of_getElem? (i := 47) rfl))) (mvT hZ (hw _ (List.mem_of_getElem? (i := 48) rfl))) (mvT hZ (hw _ (List.mem_of_getElem? (i := 49) rfl))) (mvT hZ (hw _ (List.mem_of_getElem? (i := 50) rfl))) (by decide) (backOf (W := 1) (rm10 l Z a0 hw [] p2 b9 h9 n0 (by first | omega | exact own_ne (by omega) | exact own_le (by omega) | exact own_lt (by omega))) hZ (hw _ (List.mem_of_getElem? (i := 50) rfl)) (hw _ (List.mem_of_getElem? (i := 49) rfl)) (by decide) (by decide)) (g := (mkF m 21 #[.val (.ref a), .val (.ref p1), .val (.ref p2), .val (.ref p3)] [(.ref b9), (.ref p2), (.ref a)])) rfl (by rw [hml]; rfl) (argsL := [(.ref p2), (.ref b9)]) (rest := [(.ref a)]) (lenOf pd__Ljava_lang_Object_Ljava_lang_String__Ljava_lang_Object_ rfl) rfl (by show 2 * 0 + _ ≤ _; exact Nat.le_of_eq rfl) (hb hby d9_21) (fun _ _ => ⟨rfl, e9, (by decide : 4 + 0 ≤ _), (by decide : 64 + 0 ≤ _)⟩)
  dsimp only [Pt.U, Pt.locs, Pt.cells, Pt.slots] at X10 l10 y10 z10 st10 hQ10
  subst l10 y10 z10
  obtain ⟨rfl, N10q, e10⟩ := hQ10
  have N10 := Fr.app N8 N10q
  refine go_of (B := (T10.setTop (mkF m 24 #[.val (.ref a), .val (.ref p1), .val (.ref p2), .val (.ref p3)] [(.ref p2), (.ref a)]))) (st10) ?_
  have cf_12 := (((Ep2.ext E2).wr W8).ext E9)
  obtain ⟨T11, X11, e11, st11⟩ := castY X10 hx hZ hown (hw _ (List.mem_of_getElem? (i := 51) rfl)) e10 (Ins.self cf_12) (g := (mkF m 24 #[.val (.ref a), .val (.ref p1), .val (.ref p2), .val (.ref p3)] [(.ref p2), (.ref a)])) rfl rfl (hb hby d9_24)
  refine go_of (B := (T11.setTop (mkF m 27 #[.val (.ref a), .val (.ref p1), .val (.ref p2), .val (.ref p3)] [(.ref p2), (.ref a)]))) (st11) ?_
  have cf_13 := ((cf_6.wr W8).ext E9)
  have cf_14 := (((F2.ext E2).other W8 (Or.inr (slot_ne (Or.inr (hw _ (List.mem_of_getElem? (i := 56) rfl))) (Or.inr (hw _ (List.mem_of_getElem? (i := 53) rfl))) (by decide) (t := (.object "java/lang/String")) (t' := (.object "java/lang/String")) (by decide) (by decide)))).ext E9)
  obtain ⟨T15, h15, X15, e15, W15, st15⟩ := putF X11 hx hZ hown (host := "") (Or.inl (hw _ (List.mem_of_getElem? (i := 55) rfl))) Via.refl e11 cf_14 cf_13 (Or.inr ⟨(hw _ (List.mem_of_getElem? (i := 56) rfl)), rfl, hnm⟩) (hw _ (List.mem_of_getElem? (i := 1) rfl)) (ty := (.object "java/lang/String")) (by decide) rfl rfl (g := (mkF m 27 #[.val (.ref a), .val (.ref p1), .val (.ref p2), .val (.ref p3)] [(.ref p2), (.ref a)])) rfl rfl (hb hby d9_27)
  have sz15 := W15.size
  have Fw15 := cf_14.same W15
  have N15 := Fr.snoc X15 N10 (g : n0 ≤ a)
  refine go_of (B := (T15.setTop (mkF m 30 #[.val (.ref a), .val (.ref p1), .val (.ref p2), .val (.ref p3)] []))) (st15) ?_
  refine go_of (B := (T15.setTop (mkF m 31 #[.val (.ref a), .val (.ref p1), .val (.ref p2), .val (.ref p3)] [(.ref a)]))) (fun _ kk => XS.aloadN X15.here hx rfl (hb hby d9_30) rfl rfl kk) ?_
  refine go_of (B := (T15.setTop (mkF m 32 #[.val (.ref a), .val (.ref p1), .val (.ref p2), .val (.ref p3)] [(.ref p3), (.ref a)]))) (fun _ kk => XS.aloadN X15.here hx rfl (hb hby d9_31) rfl rfl kk) ?_
  obtain ⟨b16, T16, h16, k16, X16, e16, E16, hS, hk16, hZ, hown, st16⟩ := ldcS X15 hx hZ hown (hw _ (List.mem_of_getElem? (i := 57) rfl)) (own_wS hw) e15 hS (by first | omega | exact own_ne (by omega) | exact own_le (by omega) | exact own_lt (by omega)) (g := (mkF m 32 #[.val (.ref a), .val (.ref p1), .val (.ref p2), .val (.ref p3)] [(.ref p3), (.ref a)])) rfl (hb hby d9_32) (n := 40) (by decide) (by decide) (by decide) (by decide)
  have sz16 := E16.1
  refine go_of (B := (T16.setTop (mkF m 34 #[.val (.ref a), .val (.ref p1), .val (.ref p2), .val (.ref p3)] [(.ref b16), (.ref p3), (.ref a)]))) (st16) ?_
  obtain ⟨_, _, ⟨T17, L17, k17, n17⟩, -, X17, ⟨Lc17, hQ17, l17, y17, z17⟩, st17⟩ := Jvm.LawKit.callS X16 hx (y := (⟨"java/util/Objects", "requireNonNull", "(Ljava/lang/Object;Ljava/lang/String;)Ljava/lang/Object;"⟩ : MethodName)) hown (mvT hZ (hw _ (List.mem_of_getElem? (i := 47) rfl))) (mvT hZ (hw _ (List.mem_of_getElem? (i := 48) rfl))) (mvT hZ (hw _ (List.mem_of_getElem? (i := 49) rfl))) (mvT hZ (hw _ (List.mem_of_getElem? (i := 50) rfl))) (by decide) (backOf (W := 1) (rm10 l Z a0 hw [] p3 b16 h16 n0 (by first | omega | exact own_ne (by omega) | exact own_le (by omega) | exact own_lt (by omega))) hZ (hw _ (List.mem_of_getElem? (i := 50) rfl)) (hw _ (List.mem_of_getElem? (i := 49) rfl)) (by decide) (by decide)) (g := (mkF m 34 #[.val (.ref a), .val (.ref p1), .val (.ref p2), .val (.ref p3)] [(.ref b16), (.ref p3), (.ref a)])) rfl (by rw [hml]; rfl) (argsL := [(.ref p3), (.ref b16)]) (rest := [(.ref a)]) (lenOf pd__Ljava_lang_Object_Ljava_lang_String__Ljava_lang_Object_ rfl) rfl (by show 2 * 0 + _ ≤ _; exact Nat.le_of_eq rfl) (hb hby d9_34) (fun _ _ => ⟨rfl, e16, (by decide : 6 + 0 ≤ _), (by decide : 108 + 0 ≤ _)⟩)
  dsimp only [Pt.U, Pt.locs, Pt.cells, Pt.slots] at X17 l17 y17 z17 st17 hQ17
  subst l17 y17 z17
  obtain ⟨rfl, N17q, e17⟩ := hQ17
  have N17 := Fr.app N15 N17q
  refine go_of (B := (T17.setTop (mkF m 37 #[.val (.ref a), .val (.ref p1), .val (.ref p2), .val (.ref p3)] [(.ref p3), (.ref a)]))) (st17) ?_
  have cf_19 := (((((Ep3.ext E2).wr W8).ext E9).wr W15).ext E16)
  obtain ⟨T18, X18, e18, st18⟩ := castY X17 hx hZ hown (hw _ (List.mem_of_getElem? (i := 51) rfl)) e17 (Ins.self cf_19) (g := (mkF m 37 #[.val (.ref a), .val (.ref p1), .val (.ref p2), .val (.ref p3)] [(.ref p3), (.ref a)])) rfl rfl (hb hby d9_37)
  refine go_of (B := (T18.setTop (mkF m 40 #[.val (.ref a), .val (.ref p1), .val (.ref p2), .val (.ref p3)] [(.ref p3), (.ref a)]))) (st18) ?_
  have cf_20 := ((cf_13.wr W15).ext E16)
  have cf_21 := (((((F3.ext E2).other W8 (Or.inr (slot_ne (Or.inr (hw _ (List.mem_of_getElem? (i := 59) rfl))) (Or.inr (hw _ (List.mem_of_getElem? (i := 53) rfl))) (by decide) (t := (.object "java/lang/String")) (t' := (.object "java/lang/String")) (by decide) (by decide)))).ext E9).other W15 (Or.inr (slot_ne (Or.inr (hw _ (List.mem_of_getElem? (i := 59) rfl))) (Or.inr (hw _ (List.mem_of_getElem? (i := 56) rfl))) (by decide) (t := (.object "java/lang/String")) (t' := (.object "java/lang/String")) (by decide) (by decide)))).ext E16)
  obtain ⟨T22, h22, X22, e22, W22, st22⟩ := putF X18 hx hZ hown (host := "") (Or.inl (hw _ (List.mem_of_getElem? (i := 58) rfl))) Via.refl e18 cf_21 cf_20 (Or.inr ⟨(hw _ (List.mem_of_getElem? (i := 59) rfl)), rfl, hnm⟩) (hw _ (List.mem_of_getElem? (i := 1) rfl)) (ty := (.object "java/lang/String")) (by decide) rfl rfl (g := (mkF m 40 #[.val (.ref a), .val (.ref p1), .val (.ref p2), .val (.ref p3)] [(.ref p3), (.ref a)])) rfl rfl (hb hby d9_40)
  have sz22 := W22.size
  have Fw22 := cf_21.same W22
  have N22 := Fr.snoc X22 N17 (g : n0 ≤ a)
  refine go_of (B := (T22.setTop (mkF m 43 #[.val (.ref a), .val (.ref p1), .val (.ref p2), .val (.ref p3)] []))) (st22) ?_
  have cf_23 := (cf_20.wr W22)
  have cf_24 := ((((Fw8.ext E9).other W15 (Or.inr (slot_ne (Or.inr (hw _ (List.mem_of_getElem? (i := 53) rfl))) (Or.inr (hw _ (List.mem_of_getElem? (i := 56) rfl))) (by decide) (t := (.object "java/lang/String")) (t' := (.object "java/lang/String")) (by decide) (by decide)))).ext E16).other W22 (Or.inr (slot_ne (Or.inr (hw _ (List.mem_of_getElem? (i := 53) rfl))) (Or.inr (hw _ (List.mem_of_getElem? (i := 59) rfl))) (by decide) (t := (.object "java/lang/String")) (t' := (.object "java/lang/String")) (by decide) (by decide))))
  have cf_25 := ((Fw15.ext E16).other W22 (Or.inr (slot_ne (Or.inr (hw _ (List.mem_of_getElem? (i := 56) rfl))) (Or.inr (hw _ (List.mem_of_getElem? (i := 59) rfl))) (by decide) (t := (.object "java/lang/String")) (t' := (.object "java/lang/String")) (by decide) (by decide))))
  refine go_endW X22 hS (by rw [e22]; omega) (v := none) (fun _ => rfl) Bd.notSynchronized (by decide) (by decide) (Q := (Q_rm9 Z a p1 p2 p3 u1 u2 u3 h0 n0)) ?_ (fun fs hr => X22.returnOut hx Bd.returns (hb hby d9_43) hr)
  show (fun (v : Option Value) (h : Heap) (L : List Loc) => v = none ∧ Fr n0 L ∧ Keep h0 h [a] ∧ OT Z h a p1 p2 p3) (none) T22.heap _
  rw [e22]
  exact ⟨rfl, N22, (((((((Keep.refl h0 [a]).ext E2).wr W8 (Or.inl (List.mem_of_getElem? (i := 0) rfl))).ext E9).wr W15 (Or.inl (List.mem_of_getElem? (i := 0) rfl))).ext E16).wr W22 (Or.inl (List.mem_of_getElem? (i := 0) rfl))), ⟨cf_23, cf_24, cf_25, Fw22⟩⟩
theorem d12_0 : decode prog_32_method_1_code 0 = .ok (.aload_n 0, 1) := by decide +kernel
theorem d12_1 : decode prog_32_method_1_code 1 = .ok (.invokespecial 1, 3) := by decide +kernel
theorem d12_4 : decode prog_32_method_1_code 4 = .ok (.aload_n 0, 1) := by decide +kernel
theorem d12_5 : decode prog_32_method_1_code 5 = .ok (.aload_n 1, 1) := by decide +kernel
theorem d12_6 : decode prog_32_method_1_code 6 = .ok (.ldc 7, 2) := by decide +kernel
theorem d12_8 : decode prog_32_method_1_code 8 = .ok (.invokestatic 9, 3) := by decide +kernel
theorem d12_11 : decode prog_32_method_1_code 11 = .ok (.checkcast 15, 3) := by decide +kernel
theorem d12_14 : decode prog_32_method_1_code 14 = .ok (.putfield 17, 3) := by decide +kernel
theorem d12_17 : decode prog_32_method_1_code 17 = .ok (.aload_n 0, 1) := by decide +kernel
theorem d12_18 : decode prog_32_method_1_code 18 = .ok (.aload_n 2, 1) := by decide +kernel
theorem d12_19 : decode prog_32_method_1_code 19 = .ok (.ldc 22, 2) := by decide +kernel
theorem d12_21 : decode prog_32_method_1_code 21 = .ok (.invokestatic 9, 3) := by decide +kernel
theorem d12_24 : decode prog_32_method_1_code 24 = .ok (.checkcast 15, 3) := by decide +kernel
theorem d12_27 : decode prog_32_method_1_code 27 = .ok (.putfield 24, 3) := by decide +kernel
theorem d12_30 : decode prog_32_method_1_code 30 = .ok (.aload_n 0, 1) := by decide +kernel
theorem d12_31 : decode prog_32_method_1_code 31 = .ok (.aload_n 3, 1) := by decide +kernel
theorem d12_32 : decode prog_32_method_1_code 32 = .ok (.ldc 26, 2) := by decide +kernel
theorem d12_34 : decode prog_32_method_1_code 34 = .ok (.invokestatic 9, 3) := by decide +kernel
theorem d12_37 : decode prog_32_method_1_code 37 = .ok (.checkcast 15, 3) := by decide +kernel
theorem d12_40 : decode prog_32_method_1_code 40 = .ok (.putfield 28, 3) := by decide +kernel
theorem d12_43 : decode prog_32_method_1_code 43 = .ok (.return_, 1) := by decide +kernel
def Q_rm12 (Z : State) (a : Addr) (p1 : Addr) (p2 : Addr) (p3 : Addr) (u1 : Value) (u2 : Value) (u3 : Value) (h0 : Heap) (n0 : Nat) (v : Option Value) (h : Heap) (L : List Loc) : Prop := v = none ∧ Fr n0 L ∧ Keep h0 h [a] ∧ OC Z h a p1 p2 p3
theorem pn_com_example_sure_paths_surepaths_model_ClassToExistential : plainName "com/example/sure_paths/surepaths/model/ClassToExistential" = true := by first | (simp [plainName, overriddenIn]; done) | decide +kernel
theorem ef_rm12 (m : MethodId) (a : Addr) (p1 : Addr) (p2 : Addr) (p3 : Addr)  : entryFrame m #[(.ref a), (.ref p1), (.ref p2), (.ref p3)] 4 = mkF m 0 #[.val (.ref a), .val (.ref p1), .val (.ref p2), .val (.ref p3)] [] := by first | (simp [entryFrame, mkF, argsToLocals, Value.category]; done) | rfl
set_option maxRecDepth 65536 in
set_option maxHeartbeats 40000000 in
theorem rm12 (l : Launch) (Z : State) (a0 : Array Value) (hw : ∀ d ∈ tables_1, d.before a0 Z = true) (ws : List Jvm.Cond) (a : Addr) (p1 : Addr) (p2 : Addr) (p3 : Addr) (u1 : Value) (u2 : Value) (u3 : Value) (h0 : Heap) (n0 : Nat) (Z0 : n0 ≤ h0.size) (E : Exa Z h0 a "com/example/sure_paths/surepaths/model/ClassToExistential") (F1 : Fld Z h0 a "com/example/sure_paths/surepaths/model/ClassToExistential" "subClass" "Ljava/lang/String;" u1) (F2 : Fld Z h0 a "com/example/sure_paths/surepaths/model/ClassToExistential" "property" "Ljava/lang/String;" u2) (F3 : Fld Z h0 a "com/example/sure_paths/surepaths/model/ClassToExistential" "filler" "Ljava/lang/String;" u3) (g : n0 ≤ a) (Ep1 : Exa Z h0 p1 "java/lang/String") (Ep2 : Exa Z h0 p2 "java/lang/String") (Ep3 : Exa Z h0 p3 "java/lang/String") :
    MetFree l (⟨"com/example/sure_paths/surepaths/model/ClassToExistential", "<init>", "(Ljava/lang/String;Ljava/lang/String;Ljava/lang/String;)V"⟩ : MethodName) (head1 (Jvm.Cond.code (⟨"com/example/sure_paths/surepaths/model/ClassToExistential", "<init>", "(Ljava/lang/String;Ljava/lang/String;Ljava/lang/String;)V"⟩ : MethodName) prog_32_method_1_code 4 none :: ws) ({ frames := 1, cells := 6, slots := 100, locals := 14 } : Room)) (fun aa' U1' => aa' = #[(.ref a), (.ref p1), (.ref p2), (.ref p3)] ∧ Z.Warmed39 U1'.vm ∧ U1'.heap = h0) (fun _ _ _ _ _ => True) (fun _ U1' oo' U2' => ∃ vv' LL', oo' = .returned vv' ∧ (Q_rm12 Z a p1 p2 p3 u1 u2 u3 h0 n0) vv' U2'.heap LL' ∧ ReturnedEndW U1' oo' U2' LL' ({ frames := 1, cells := 6, slots := 100, locals := 14 } : Room).cells ({ frames := 1, cells := 6, slots := 100, locals := 14 } : Room).slots) := by
  refine MetFree.of_bodySF (plainFor_of_name pn_com_example_sure_paths_surepaths_model_ClassToExistential) hisR ?_
  intro p e s m args below meth c s₁ Bd hml0 hP hK
  obtain ⟨rfl, hZ, hh⟩ := hP
  have hx := Bd.exec
  have hby := Bd.bytes
  have hml : c.maxLocals = 4 := hml0
  have hown : s.vm.findClass "com/example/sure_paths/surepaths/model/ClassToExistential" = some m.cls := findClass_of_methodNamed Bd.named
  have hnm := (name_of_methodNamed Bd.named Bd.method).1
  have X0 : Stand p l e ({ frames := 1, cells := 6, slots := 100, locals := 14 } : Room) (s.setVm s.vm) m #[(.ref a), (.ref p1), (.ref p2), (.ref p3)] below meth c s₁ [] 0 0 := Stand.of_body Bd
  have e0 : s₁.heap = h0 := by rw [← hh, Bd.state]; rfl
  have N0 := Fr.nil n0
  have hS : s.Since s.vm 0 := (State.WarmedH.refl s).since 0
  have lta := own_nlt (E.lt)
  have lt1 := own_nlt (Ep1.lt)
  have lt2 := own_nlt (Ep2.lt)
  have lt3 := own_nlt (Ep3.lt)
  refine go_of (A := s₁.setTop (entryFrame m #[(.ref a), (.ref p1), (.ref p2), (.ref p3)] 4)) (B := s₁.setTop (mkF m 0 #[.val (.ref a), .val (.ref p1), .val (.ref p2), .val (.ref p3)] [])) (fun _ kk' => castTop (ef_rm12 m a p1 p2 p3) kk') ?_
  refine go_of (B := (s₁.setTop (mkF m 1 #[.val (.ref a), .val (.ref p1), .val (.ref p2), .val (.ref p3)] [(.ref a)]))) (fun _ kk => XS.aloadN X0.here hx rfl (hb hby d12_0) rfl rfl kk) ?_
  obtain ⟨T1, X1, e1, st1⟩ := initO X0 hx hZ hown (hw _ (List.mem_of_getElem? (i := 71) rfl)) (hw _ (List.mem_of_getElem? (i := 22) rfl)) (hw _ (List.mem_of_getElem? (i := 23) rfl)) e0 (g := (mkF m 1 #[.val (.ref a), .val (.ref p1), .val (.ref p2), .val (.ref p3)] [(.ref a)])) rfl (by rw [hml]; rfl) rfl (hb hby d12_1) (by decide) (W := 0) (by show 2 * 0 + _ ≤ _; exact Nat.le_of_eq rfl) (by decide)
  refine go_of (B := (T1.setTop (mkF m 4 #[.val (.ref a), .val (.ref p1), .val (.ref p2), .val (.ref p3)] []))) (st1) ?_
  refine go_of (B := (T1.setTop (mkF m 5 #[.val (.ref a), .val (.ref p1), .val (.ref p2), .val (.ref p3)] [(.ref a)]))) (fun _ kk => XS.aloadN X1.here hx rfl (hb hby d12_4) rfl rfl kk) ?_
  refine go_of (B := (T1.setTop (mkF m 6 #[.val (.ref a), .val (.ref p1), .val (.ref p2), .val (.ref p3)] [(.ref p1), (.ref a)]))) (fun _ kk => XS.aloadN X1.here hx rfl (hb hby d12_5) rfl rfl kk) ?_
  obtain ⟨b2, T2, h2, k2, X2, e2, E2, hS, hk2, hZ, hown, st2⟩ := ldcS X1 hx hZ hown (hw _ (List.mem_of_getElem? (i := 72) rfl)) (own_wS hw) e1 hS (by first | omega | exact own_ne (by omega) | exact own_le (by omega) | exact own_lt (by omega)) (g := (mkF m 6 #[.val (.ref a), .val (.ref p1), .val (.ref p2), .val (.ref p3)] [(.ref p1), (.ref a)])) rfl (hb hby d12_6) (n := 32) (by decide) (by decide) (by decide) (by decide)
  have sz2 := E2.1
  refine go_of (B := (T2.setTop (mkF m 8 #[.val (.ref a), .val (.ref p1), .val (.ref p2), .val (.ref p3)] [(.ref b2), (.ref p1), (.ref a)]))) (st2) ?_
  obtain ⟨_, _, ⟨T3, L3, k3, n3⟩, -, X3, ⟨Lc3, hQ3, l3, y3, z3⟩, st3⟩ := Jvm.LawKit.callS X2 hx (y := (⟨"java/util/Objects", "requireNonNull", "(Ljava/lang/Object;Ljava/lang/String;)Ljava/lang/Object;"⟩ : MethodName)) hown (mvT hZ (hw _ (List.mem_of_getElem? (i := 73) rfl))) (mvT hZ (hw _ (List.mem_of_getElem? (i := 48) rfl))) (mvT hZ (hw _ (List.mem_of_getElem? (i := 49) rfl))) (mvT hZ (hw _ (List.mem_of_getElem? (i := 50) rfl))) (by decide) (backOf (W := 1) (rm10 l Z a0 hw [] p1 b2 h2 n0 (by first | omega | exact own_ne (by omega) | exact own_le (by omega) | exact own_lt (by omega))) hZ (hw _ (List.mem_of_getElem? (i := 50) rfl)) (hw _ (List.mem_of_getElem? (i := 49) rfl)) (by decide) (by decide)) (g := (mkF m 8 #[.val (.ref a), .val (.ref p1), .val (.ref p2), .val (.ref p3)] [(.ref b2), (.ref p1), (.ref a)])) rfl (by rw [hml]; rfl) (argsL := [(.ref p1), (.ref b2)]) (rest := [(.ref a)]) (lenOf pd__Ljava_lang_Object_Ljava_lang_String__Ljava_lang_Object_ rfl) rfl (by show 2 * 0 + _ ≤ _; exact Nat.le_of_eq rfl) (hb hby d12_8) (fun _ _ => ⟨rfl, e2, (by decide : 2 + 0 ≤ _), (by decide : 36 + 0 ≤ _)⟩)
  dsimp only [Pt.U, Pt.locs, Pt.cells, Pt.slots] at X3 l3 y3 z3 st3 hQ3
  subst l3 y3 z3
  obtain ⟨rfl, N3q, e3⟩ := hQ3
  have N3 := Fr.app N0 N3q
  refine go_of (B := (T3.setTop (mkF m 11 #[.val (.ref a), .val (.ref p1), .val (.ref p2), .val (.ref p3)] [(.ref p1), (.ref a)]))) (st3) ?_
  have cf_5 := (Ep1.ext E2)
  obtain ⟨T4, X4, e4, st4⟩ := castY X3 hx hZ hown (hw _ (List.mem_of_getElem? (i := 74) rfl)) e3 (Ins.self cf_5) (g := (mkF m 11 #[.val (.ref a), .val (.ref p1), .val (.ref p2), .val (.ref p3)] [(.ref p1), (.ref a)])) rfl rfl (hb hby d12_11)
  refine go_of (B := (T4.setTop (mkF m 14 #[.val (.ref a), .val (.ref p1), .val (.ref p2), .val (.ref p3)] [(.ref p1), (.ref a)]))) (st4) ?_
  have cf_6 := (E.ext E2)
  have cf_7 := (F1.ext E2)
  obtain ⟨T8, h8, X8, e8, W8, st8⟩ := putF X4 hx hZ hown (host := "") (Or.inl (hw _ (List.mem_of_getElem? (i := 75) rfl))) Via.refl e4 cf_7 cf_6 (Or.inr ⟨(hw _ (List.mem_of_getElem? (i := 76) rfl)), rfl, hnm⟩) (hw _ (List.mem_of_getElem? (i := 66) rfl)) (ty := (.object "java/lang/String")) (by decide) rfl rfl (g := (mkF m 14 #[.val (.ref a), .val (.ref p1), .val (.ref p2), .val (.ref p3)] [(.ref p1), (.ref a)])) rfl rfl (hb hby d12_14)
  have sz8 := W8.size
  have Fw8 := cf_7.same W8
  have N8 := Fr.snoc X8 N3 (g : n0 ≤ a)
  refine go_of (B := (T8.setTop (mkF m 17 #[.val (.ref a), .val (.ref p1), .val (.ref p2), .val (.ref p3)] []))) (st8) ?_
  refine go_of (B := (T8.setTop (mkF m 18 #[.val (.ref a), .val (.ref p1), .val (.ref p2), .val (.ref p3)] [(.ref a)]))) (fun _ kk => XS.aloadN X8.here hx rfl (hb hby d12_17) rfl rfl kk) ?_
  refine go_of (B := (T8.setTop (mkF m 19 #[.val (.ref a), .val (.ref p1), .val (.ref p2), .val (.ref p3)] [(.ref p2), (.ref a)]))) (fun _ kk => XS.aloadN X8.here hx rfl (hb hby d12_18) rfl rfl kk) ?_
  obtain ⟨b9, T9, h9, k9, X9, e9, E9, hS, hk9, hZ, hown, st9⟩ := ldcS X8 hx hZ hown (hw _ (List.mem_of_getElem? (i := 77) rfl)) (own_wS hw) e8 hS (by first | omega | exact own_ne (by omega) | exact own_le (by omega) | exact own_lt (by omega)) (g := (mkF m 19 #[.val (.ref a), .val (.ref p1), .val (.ref p2), .val (.ref p3)] [(.ref p2), (.ref a)])) rfl (hb hby d12_19) (n := 32) (by decide) (by decide) (by decide) (by decide)
  have sz9 := E9.1
  refine go_of (B := (T9.setTop (mkF m 21 #[.val (.ref a), .val (.ref p1), .val (.ref p2), .val (.ref p3)] [(.ref b9), (.ref p2), (.ref a)]))) (st9) ?_
  obtain ⟨_, _, ⟨T10, L10, k10, n10⟩, -, X10, ⟨Lc10, hQ10, l10, y10, z10⟩, st10⟩ := Jvm.LawKit.callS X9 hx (y := (⟨"java/util/Objects", "requireNonNull", "(Ljava/lang/Object;Ljava/lang/String;)Ljava/lang/Object;"⟩ : MethodName)) hown (mvT hZ (hw _ (List.mem_of_getElem? (i := 73) rfl))) (mvT hZ (hw _ (List.mem_of_getElem? (i := 48) rfl))) (mvT hZ (hw _ (List.mem_of_getElem? (i := 49) rfl))) (mvT hZ (hw _ (List.mem_of_getElem? (i := 50) rfl))) (by decide) (backOf (W := 1) (rm10 l Z a0 hw [] p2 b9 h9 n0 (by first | omega | exact own_ne (by omega) | exact own_le (by omega) | exact own_lt (by omega))) hZ (hw _ (List.mem_of_getElem? (i := 50) rfl)) (hw _ (List.mem_of_getElem? (i := 49) rfl)) (by decide) (by decide)) (g := (mkF m 21 #[.val (.ref a), .val (.ref p1), .val (.ref p2), .val (.ref p3)] [(.ref b9), (.ref p2), (.ref a)])) rfl (by rw [hml]; rfl) (argsL := [(.ref p2), (.ref b9)]) (rest := [(.ref a)]) (lenOf pd__Ljava_lang_Object_Ljava_lang_String__Ljava_lang_Object_ rfl) rfl (by show 2 * 0 + _ ≤ _; exact Nat.le_of_eq rfl) (hb hby d12_21) (fun _ _ => ⟨rfl, e9, (by decide : 4 + 0 ≤ _), (by decide : 72 + 0 ≤ _)⟩)
  dsimp only [Pt.U, Pt.locs, Pt.cells, Pt.slots] at X10 l10 y10 z10 st10 hQ10
  subst l10 y10 z10
  obtain ⟨rfl, N10q, e10⟩ := hQ10
  have N10 := Fr.app N8 N10q
  refine go_of (B := (T10.setTop (mkF m 24 #[.val (.ref a), .val (.ref p1), .val (.ref p2), .val (.ref p3)] [(.ref p2), (.ref a)]))) (st10) ?_
  have cf_12 := (((Ep2.ext E2).wr W8).ext E9)
  obtain ⟨T11, X11, e11, st11⟩ := castY X10 hx hZ hown (hw _ (List.mem_of_getElem? (i := 74) rfl)) e10 (Ins.self cf_12) (g := (mkF m 24 #[.val (.ref a), .val (.ref p1), .val (.ref p2), .val (.ref p3)] [(.ref p2), (.ref a)])) rfl rfl (hb hby d12_24)
  refine go_of (B := (T11.setTop (mkF m 27 #[.val (.ref a), .val (.ref p1), .val (.ref p2), .val (.ref p3)] [(.ref p2), (.ref a)]))) (st11) ?_
  have cf_13 := ((cf_6.wr W8).ext E9)
  have cf_14 := (((F2.ext E2).other W8 (Or.inr (slot_ne (Or.inr (hw _ (List.mem_of_getElem? (i := 79) rfl))) (Or.inr (hw _ (List.mem_of_getElem? (i := 76) rfl))) (by decide) (t := (.object "java/lang/String")) (t' := (.object "java/lang/String")) (by decide) (by decide)))).ext E9)
  obtain ⟨T15, h15, X15, e15, W15, st15⟩ := putF X11 hx hZ hown (host := "") (Or.inl (hw _ (List.mem_of_getElem? (i := 78) rfl))) Via.refl e11 cf_14 cf_13 (Or.inr ⟨(hw _ (List.mem_of_getElem? (i := 79) rfl)), rfl, hnm⟩) (hw _ (List.mem_of_getElem? (i := 66) rfl)) (ty := (.object "java/lang/String")) (by decide) rfl rfl (g := (mkF m 27 #[.val (.ref a), .val (.ref p1), .val (.ref p2), .val (.ref p3)] [(.ref p2), (.ref a)])) rfl rfl (hb hby d12_27)
  have sz15 := W15.size
  have Fw15 := cf_14.same W15
  have N15 := Fr.snoc X15 N10 (g : n0 ≤ a)
  refine go_of (B := (T15.setTop (mkF m 30 #[.val (.ref a), .val (.ref p1), .val (.ref p2), .val (.ref p3)] []))) (st15) ?_
  refine go_of (B := (T15.setTop (mkF m 31 #[.val (.ref a), .val (.ref p1), .val (.ref p2), .val (.ref p3)] [(.ref a)]))) (fun _ kk => XS.aloadN X15.here hx rfl (hb hby d12_30) rfl rfl kk) ?_
  refine go_of (B := (T15.setTop (mkF m 32 #[.val (.ref a), .val (.ref p1), .val (.ref p2), .val (.ref p3)] [(.ref p3), (.ref a)]))) (fun _ kk => XS.aloadN X15.here hx rfl (hb hby d12_31) rfl rfl kk) ?_
  obtain ⟨b16, T16, h16, k16, X16, e16, E16, hS, hk16, hZ, hown, st16⟩ := ldcS X15 hx hZ hown (hw _ (List.mem_of_getElem? (i := 80) rfl)) (own_wS hw) e15 hS (by first | omega | exact own_ne (by omega) | exact own_le (by omega) | exact own_lt (by omega)) (g := (mkF m 32 #[.val (.ref a), .val (.ref p1), .val (.ref p2), .val (.ref p3)] [(.ref p3), (.ref a)])) rfl (hb hby d12_32) (n := 24) (by decide) (by decide) (by decide) (by decide)
  have sz16 := E16.1
  refine go_of (B := (T16.setTop (mkF m 34 #[.val (.ref a), .val (.ref p1), .val (.ref p2), .val (.ref p3)] [(.ref b16), (.ref p3), (.ref a)]))) (st16) ?_
  obtain ⟨_, _, ⟨T17, L17, k17, n17⟩, -, X17, ⟨Lc17, hQ17, l17, y17, z17⟩, st17⟩ := Jvm.LawKit.callS X16 hx (y := (⟨"java/util/Objects", "requireNonNull", "(Ljava/lang/Object;Ljava/lang/String;)Ljava/lang/Object;"⟩ : MethodName)) hown (mvT hZ (hw _ (List.mem_of_getElem? (i := 73) rfl))) (mvT hZ (hw _ (List.mem_of_getElem? (i := 48) rfl))) (mvT hZ (hw _ (List.mem_of_getElem? (i := 49) rfl))) (mvT hZ (hw _ (List.mem_of_getElem? (i := 50) rfl))) (by decide) (backOf (W := 1) (rm10 l Z a0 hw [] p3 b16 h16 n0 (by first | omega | exact own_ne (by omega) | exact own_le (by omega) | exact own_lt (by omega))) hZ (hw _ (List.mem_of_getElem? (i := 50) rfl)) (hw _ (List.mem_of_getElem? (i := 49) rfl)) (by decide) (by decide)) (g := (mkF m 34 #[.val (.ref a), .val (.ref p1), .val (.ref p2), .val (.ref p3)] [(.ref b16), (.ref p3), (.ref a)])) rfl (by rw [hml]; rfl) (argsL := [(.ref p3), (.ref b16)]) (rest := [(.ref a)]) (lenOf pd__Ljava_lang_Object_Ljava_lang_String__Ljava_lang_Object_ rfl) rfl (by show 2 * 0 + _ ≤ _; exact Nat.le_of_eq rfl) (hb hby d12_34) (fun _ _ => ⟨rfl, e16, (by decide : 6 + 0 ≤ _), (by decide : 100 + 0 ≤ _)⟩)
  dsimp only [Pt.U, Pt.locs, Pt.cells, Pt.slots] at X17 l17 y17 z17 st17 hQ17
  subst l17 y17 z17
  obtain ⟨rfl, N17q, e17⟩ := hQ17
  have N17 := Fr.app N15 N17q
  refine go_of (B := (T17.setTop (mkF m 37 #[.val (.ref a), .val (.ref p1), .val (.ref p2), .val (.ref p3)] [(.ref p3), (.ref a)]))) (st17) ?_
  have cf_19 := (((((Ep3.ext E2).wr W8).ext E9).wr W15).ext E16)
  obtain ⟨T18, X18, e18, st18⟩ := castY X17 hx hZ hown (hw _ (List.mem_of_getElem? (i := 74) rfl)) e17 (Ins.self cf_19) (g := (mkF m 37 #[.val (.ref a), .val (.ref p1), .val (.ref p2), .val (.ref p3)] [(.ref p3), (.ref a)])) rfl rfl (hb hby d12_37)
  refine go_of (B := (T18.setTop (mkF m 40 #[.val (.ref a), .val (.ref p1), .val (.ref p2), .val (.ref p3)] [(.ref p3), (.ref a)]))) (st18) ?_
  have cf_20 := ((cf_13.wr W15).ext E16)
  have cf_21 := (((((F3.ext E2).other W8 (Or.inr (slot_ne (Or.inr (hw _ (List.mem_of_getElem? (i := 82) rfl))) (Or.inr (hw _ (List.mem_of_getElem? (i := 76) rfl))) (by decide) (t := (.object "java/lang/String")) (t' := (.object "java/lang/String")) (by decide) (by decide)))).ext E9).other W15 (Or.inr (slot_ne (Or.inr (hw _ (List.mem_of_getElem? (i := 82) rfl))) (Or.inr (hw _ (List.mem_of_getElem? (i := 79) rfl))) (by decide) (t := (.object "java/lang/String")) (t' := (.object "java/lang/String")) (by decide) (by decide)))).ext E16)
  obtain ⟨T22, h22, X22, e22, W22, st22⟩ := putF X18 hx hZ hown (host := "") (Or.inl (hw _ (List.mem_of_getElem? (i := 81) rfl))) Via.refl e18 cf_21 cf_20 (Or.inr ⟨(hw _ (List.mem_of_getElem? (i := 82) rfl)), rfl, hnm⟩) (hw _ (List.mem_of_getElem? (i := 66) rfl)) (ty := (.object "java/lang/String")) (by decide) rfl rfl (g := (mkF m 40 #[.val (.ref a), .val (.ref p1), .val (.ref p2), .val (.ref p3)] [(.ref p3), (.ref a)])) rfl rfl (hb hby d12_40)
  have sz22 := W22.size
  have Fw22 := cf_21.same W22
  have N22 := Fr.snoc X22 N17 (g : n0 ≤ a)
  refine go_of (B := (T22.setTop (mkF m 43 #[.val (.ref a), .val (.ref p1), .val (.ref p2), .val (.ref p3)] []))) (st22) ?_
  have cf_23 := (cf_20.wr W22)
  have cf_24 := ((((Fw8.ext E9).other W15 (Or.inr (slot_ne (Or.inr (hw _ (List.mem_of_getElem? (i := 76) rfl))) (Or.inr (hw _ (List.mem_of_getElem? (i := 79) rfl))) (by decide) (t := (.object "java/lang/String")) (t' := (.object "java/lang/String")) (by decide) (by decide)))).ext E16).other W22 (Or.inr (slot_ne (Or.inr (hw _ (List.mem_of_getElem? (i := 76) rfl))) (Or.inr (hw _ (List.mem_of_getElem? (i := 82) rfl))) (by decide) (t := (.object "java/lang/String")) (t' := (.object "java/lang/String")) (by decide) (by decide))))
  have cf_25 := ((Fw15.ext E16).other W22 (Or.inr (slot_ne (Or.inr (hw _ (List.mem_of_getElem? (i := 79) rfl))) (Or.inr (hw _ (List.mem_of_getElem? (i := 82) rfl))) (by decide) (t := (.object "java/lang/String")) (t' := (.object "java/lang/String")) (by decide) (by decide))))
  refine go_endW X22 hS (by rw [e22]; omega) (v := none) (fun _ => rfl) Bd.notSynchronized (by decide) (by decide) (Q := (Q_rm12 Z a p1 p2 p3 u1 u2 u3 h0 n0)) ?_ (fun fs hr => X22.returnOut hx Bd.returns (hb hby d12_43) hr)
  show (fun (v : Option Value) (h : Heap) (L : List Loc) => v = none ∧ Fr n0 L ∧ Keep h0 h [a] ∧ OC Z h a p1 p2 p3) (none) T22.heap _
  rw [e22]
  exact ⟨rfl, N22, (((((((Keep.refl h0 [a]).ext E2).wr W8 (Or.inl (List.mem_of_getElem? (i := 0) rfl))).ext E9).wr W15 (Or.inl (List.mem_of_getElem? (i := 0) rfl))).ext E16).wr W22 (Or.inl (List.mem_of_getElem? (i := 0) rfl))), ⟨cf_23, cf_24, cf_25, Fw22⟩⟩
theorem d11_0 : decode prog_36_method_5_code 0 = .ok (.aload_n 1, 1) := by decide +kernel
theorem d11_1 : decode prog_36_method_5_code 1 = .ok (.instanceof 18, 3) := by decide +kernel
theorem d11_4 : decode prog_36_method_5_code 4 = .ok (.ifCond .eq 54, 3) := by decide +kernel
theorem d11_58 : decode prog_36_method_5_code 58 = .ok (.iconst 0, 1) := by decide +kernel
theorem d11_59 : decode prog_36_method_5_code 59 = .ok (.ireturn, 1) := by decide +kernel
def Q_eq_null (Z : State) (a : Addr) (h0 : Heap) (n0 : Nat) (v : Option Value) (h : Heap) (L : List Loc) : Prop := v = some (.int 0) ∧ Fr n0 L ∧ h = h0
theorem ef_eq_null (m : MethodId) (a : Addr)  : entryFrame m #[(.ref a), .null] 3 = mkF m 0 #[.val (.ref a), .val .null, .unset] [] := by first | (simp [entryFrame, mkF, argsToLocals, Value.category]; done) | rfl
set_option maxRecDepth 65536 in
set_option maxHeartbeats 40000000 in
theorem eq_null (l : Launch) (Z : State) (a0 : Array Value) (hw : ∀ d ∈ tables_1, d.before a0 Z = true) (ws : List Jvm.Cond) (a : Addr) (h0 : Heap) (n0 : Nat) (Z0 : n0 ≤ h0.size)  :
    MetFree l (⟨"com/example/sure_paths/surepaths/model/ExistentialToClass", "equals", "(Ljava/lang/Object;)Z"⟩ : MethodName) (head1 (Jvm.Cond.code (⟨"com/example/sure_paths/surepaths/model/ExistentialToClass", "equals", "(Ljava/lang/Object;)Z"⟩ : MethodName) prog_36_method_5_code 3 (some .boolean) :: ws) ({ frames := 0, cells := 0, slots := 0, locals := 0 } : Room)) (fun aa' U1' => aa' = #[(.ref a), .null] ∧ Z.Warmed39 U1'.vm ∧ U1'.heap = h0) (fun _ _ _ _ _ => True) (fun _ U1' oo' U2' => ∃ vv' LL', oo' = .returned vv' ∧ (Q_eq_null Z a h0 n0) vv' U2'.heap LL' ∧ FrameEnd U1' oo' U2' LL' ({ frames := 0, cells := 0, slots := 0, locals := 0 } : Room).cells ({ frames := 0, cells := 0, slots := 0, locals := 0 } : Room).slots) := by
  refine MetFree.of_bodySF (plainFor_of_name pn_com_example_sure_paths_surepaths_model_ExistentialToClass) hisR ?_
  intro p e s m args below meth c s₁ Bd hml0 hP hK
  obtain ⟨rfl, hZ, hh⟩ := hP
  have hx := Bd.exec
  have hby := Bd.bytes
  have hml : c.maxLocals = 3 := hml0
  have hown : s.vm.findClass "com/example/sure_paths/surepaths/model/ExistentialToClass" = some m.cls := findClass_of_methodNamed Bd.named
  have hnm := (name_of_methodNamed Bd.named Bd.method).1
  have X0 : Stand p l e ({ frames := 0, cells := 0, slots := 0, locals := 0 } : Room) s m #[(.ref a), .null] below meth c s₁ [] 0 0 := Stand.of_body Bd
  have e0 : s₁.heap = h0 := by rw [← hh, Bd.state]; rfl
  have N0 := Fr.nil n0
  refine go_of (A := s₁.setTop (entryFrame m #[(.ref a), .null] 3)) (B := s₁.setTop (mkF m 0 #[.val (.ref a), .val .null, .unset] [])) (fun _ kk' => castTop (ef_eq_null m a) kk') ?_
  refine go_of (B := (s₁.setTop (mkF m 1 #[.val (.ref a), .val .null, .unset] [.null]))) (fun _ kk => XS.aloadN X0.here hx rfl (hb hby d11_0) rfl rfl kk) ?_
  refine go_of (B := (s₁.setTop (mkF m 4 #[.val (.ref a), .val .null, .unset] [(.int (0 : Int32))]))) (fun _ kk => X0.instanceofNull hx (g := (mkF m 1 #[.val (.ref a), .val .null, .unset] [.null])) rfl rfl (hb hby d11_1) _ kk) ?_
  refine go_of (B := (s₁.setTop (mkF m 58 #[.val (.ref a), .val .null, .unset] []))) (fun _ kk => XS.ifYes X0.here hx rfl (pc0 := 4) (pc' := 58) rfl (hb hby d11_4) rfl ((if0 _ _).trans (teq (by decide : (0 : Int32) = (0 : Int32))).1) (by decide) (by decide) kk) ?_
  refine go_of (B := (s₁.setTop (mkF m 59 #[.val (.ref a), .val .null, .unset] [(.int (0 : Int32))]))) (fun _ kk => XS.iconst X0.here hx rfl (hb hby d11_58) kk) ?_
  refine go_end X0 (v := some (.int (nar .boolean (0 : Int32)))) (fun h => by rw [Bd.returns] at h; cases h) Bd.notSynchronized (by decide) (by decide) (Q := (Q_eq_null Z a h0 n0)) ?_ (fun fs hr => retN X0 hx (t := .boolean) Bd.returns (by simp) (hb hby d11_59) hr)
  show (fun (v : Option Value) (h : Heap) (L : List Loc) => v = some (.int 0) ∧ Fr n0 L ∧ h = h0) (some (.int (nar .boolean (0 : Int32)))) s₁.heap _
  rw [e0]
  exact ⟨rfl, N0, rfl⟩
def Q_eq_other (Z : State) (a : Addr) (bb : Addr) (h0 : Heap) (n0 : Nat) (v : Option Value) (h : Heap) (L : List Loc) : Prop := v = some (.int 0) ∧ Fr n0 L ∧ h = h0
theorem ef_eq_other (m : MethodId) (a : Addr) (bb : Addr)  : entryFrame m #[(.ref a), (.ref bb)] 3 = mkF m 0 #[.val (.ref a), .val (.ref bb), .unset] [] := by first | (simp [entryFrame, mkF, argsToLocals, Value.category]; done) | rfl
set_option maxRecDepth 65536 in
set_option maxHeartbeats 40000000 in
theorem eq_other (l : Launch) (Z : State) (a0 : Array Value) (hw : ∀ d ∈ tables_1, d.before a0 Z = true) (ws : List Jvm.Cond) (a : Addr) (bb : Addr) (h0 : Heap) (n0 : Nat) (Z0 : n0 ≤ h0.size) (E : Exa Z h0 bb "com/example/sure_paths/surepaths/model/ClassToExistential") :
    MetFree l (⟨"com/example/sure_paths/surepaths/model/ExistentialToClass", "equals", "(Ljava/lang/Object;)Z"⟩ : MethodName) (head1 (Jvm.Cond.code (⟨"com/example/sure_paths/surepaths/model/ExistentialToClass", "equals", "(Ljava/lang/Object;)Z"⟩ : MethodName) prog_36_method_5_code 3 (some .boolean) :: ws) ({ frames := 0, cells := 0, slots := 0, locals := 0 } : Room)) (fun aa' U1' => aa' = #[(.ref a), (.ref bb)] ∧ Z.Warmed39 U1'.vm ∧ U1'.heap = h0) (fun _ _ _ _ _ => True) (fun _ U1' oo' U2' => ∃ vv' LL', oo' = .returned vv' ∧ (Q_eq_other Z a bb h0 n0) vv' U2'.heap LL' ∧ FrameEnd U1' oo' U2' LL' ({ frames := 0, cells := 0, slots := 0, locals := 0 } : Room).cells ({ frames := 0, cells := 0, slots := 0, locals := 0 } : Room).slots) := by
  refine MetFree.of_bodySF (plainFor_of_name pn_com_example_sure_paths_surepaths_model_ExistentialToClass) hisR ?_
  intro p e s m args below meth c s₁ Bd hml0 hP hK
  obtain ⟨rfl, hZ, hh⟩ := hP
  have hx := Bd.exec
  have hby := Bd.bytes
  have hml : c.maxLocals = 3 := hml0
  have hown : s.vm.findClass "com/example/sure_paths/surepaths/model/ExistentialToClass" = some m.cls := findClass_of_methodNamed Bd.named
  have hnm := (name_of_methodNamed Bd.named Bd.method).1
  have X0 : Stand p l e ({ frames := 0, cells := 0, slots := 0, locals := 0 } : Room) s m #[(.ref a), (.ref bb)] below meth c s₁ [] 0 0 := Stand.of_body Bd
  have e0 : s₁.heap = h0 := by rw [← hh, Bd.state]; rfl
  have N0 := Fr.nil n0
  refine go_of (A := s₁.setTop (entryFrame m #[(.ref a), (.ref bb)] 3)) (B := s₁.setTop (mkF m 0 #[.val (.ref a), .val (.ref bb), .unset] [])) (fun _ kk' => castTop (ef_eq_other m a bb) kk') ?_
  refine go_of (B := (s₁.setTop (mkF m 1 #[.val (.ref a), .val (.ref bb), .unset] [(.ref bb)]))) (fun _ kk => XS.aloadN X0.here hx rfl (hb hby d11_0) rfl rfl kk) ?_
  obtain ⟨T1, X1, e1, st1⟩ := instNo X0 hx hZ hown (hw _ (List.mem_of_getElem? (i := 83) rfl)) e0 E (own_nsno (hw _ (List.mem_of_getElem? (i := 84) rfl)) (hw _ (List.mem_of_getElem? (i := 1) rfl)) (NS.step (hw _ (List.mem_of_getElem? (i := 84) rfl)) (own_nsroot (hw _ (List.mem_of_getElem? (i := 85) rfl)) (hw _ (List.mem_of_getElem? (i := 1) rfl)) (by decide)) (by decide)) (by decide)) (g := (mkF m 1 #[.val (.ref a), .val (.ref bb), .unset] [(.ref bb)])) rfl rfl (hb hby d11_1)
  refine go_of (B := (T1.setTop (mkF m 4 #[.val (.ref a), .val (.ref bb), .unset] [(.int (0 : Int32))]))) (st1) ?_
  refine go_of (B := (T1.setTop (mkF m 58 #[.val (.ref a), .val (.ref bb), .unset] []))) (fun _ kk => XS.ifYes X1.here hx rfl (pc0 := 4) (pc' := 58) rfl (hb hby d11_4) rfl ((if0 _ _).trans (teq (by decide : (0 : Int32) = (0 : Int32))).1) (by decide) (by decide) kk) ?_
  refine go_of (B := (T1.setTop (mkF m 59 #[.val (.ref a), .val (.ref bb), .unset] [(.int (0 : Int32))]))) (fun _ kk => XS.iconst X1.here hx rfl (hb hby d11_58) kk) ?_
  refine go_end X1 (v := some (.int (nar .boolean (0 : Int32)))) (fun h => by rw [Bd.returns] at h; cases h) Bd.notSynchronized (by decide) (by decide) (Q := (Q_eq_other Z a bb h0 n0)) ?_ (fun fs hr => retN X1 hx (t := .boolean) Bd.returns (by simp) (hb hby d11_59) hr)
  show (fun (v : Option Value) (h : Heap) (L : List Loc) => v = some (.int 0) ∧ Fr n0 L ∧ h = h0) (some (.int (nar .boolean (0 : Int32)))) T1.heap _
  rw [e1]
  exact ⟨rfl, N0, rfl⟩
theorem d11_7 : decode prog_36_method_5_code 7 = .ok (.aload_n 1, 1) := by decide +kernel
theorem d11_8 : decode prog_36_method_5_code 8 = .ok (.checkcast 18, 3) := by decide +kernel
theorem d11_11 : decode prog_36_method_5_code 11 = .ok (.astore_n 2, 1) := by decide +kernel
theorem d11_12 : decode prog_36_method_5_code 12 = .ok (.aload_n 0, 1) := by decide +kernel
theorem d11_13 : decode prog_36_method_5_code 13 = .ok (.getfield 17, 3) := by decide +kernel
theorem d11_16 : decode prog_36_method_5_code 16 = .ok (.aload_n 2, 1) := by decide +kernel
theorem d11_17 : decode prog_36_method_5_code 17 = .ok (.getfield 17, 3) := by decide +kernel
theorem d11_20 : decode prog_36_method_5_code 20 = .ok (.invokevirtual 30, 3) := by decide +kernel
theorem pd__Ljava_lang_Object__Z : parseMethodDescriptor "(Ljava/lang/Object;)Z" = some ⟨[(.object "java/lang/Object")], some .boolean⟩ := by decide +kernel
theorem d11_23 : decode prog_36_method_5_code 23 = .ok (.ifCond .eq 35, 3) := by decide +kernel
def Q_eq_same (Z : State) (a : Addr) (bb : Addr) (p1 : Addr) (p2 : Addr) (p3 : Addr) (q1 : Addr) (q2 : Addr) (q3 : Addr) (c1 : List Int32) (c2 : List Int32) (c3 : List Int32) (d1 : List Int32) (d2 : List Int32) (d3 : List Int32) (gC : Int32) (h0 : Heap) (n0 : Nat) (v : Option Value) (h : Heap) (L : List Loc) : Prop := v = some (.int (own_eq3 c1 d1 c2 d2 c3 d3)) ∧ Fr n0 L ∧ h = h0
theorem d11_26 : decode prog_36_method_5_code 26 = .ok (.aload_n 0, 1) := by decide +kernel
theorem d11_27 : decode prog_36_method_5_code 27 = .ok (.getfield 24, 3) := by decide +kernel
theorem d11_30 : decode prog_36_method_5_code 30 = .ok (.aload_n 2, 1) := by decide +kernel
theorem d11_31 : decode prog_36_method_5_code 31 = .ok (.getfield 24, 3) := by decide +kernel
theorem d11_34 : decode prog_36_method_5_code 34 = .ok (.invokevirtual 30, 3) := by decide +kernel
theorem d11_37 : decode prog_36_method_5_code 37 = .ok (.ifCond .eq 21, 3) := by decide +kernel
theorem d11_40 : decode prog_36_method_5_code 40 = .ok (.aload_n 0, 1) := by decide +kernel
theorem d11_41 : decode prog_36_method_5_code 41 = .ok (.getfield 28, 3) := by decide +kernel
theorem d11_44 : decode prog_36_method_5_code 44 = .ok (.aload_n 2, 1) := by decide +kernel
theorem d11_45 : decode prog_36_method_5_code 45 = .ok (.getfield 28, 3) := by decide +kernel
theorem d11_48 : decode prog_36_method_5_code 48 = .ok (.invokevirtual 30, 3) := by decide +kernel
theorem d11_51 : decode prog_36_method_5_code 51 = .ok (.ifCond .eq 7, 3) := by decide +kernel
theorem d11_54 : decode prog_36_method_5_code 54 = .ok (.iconst 1, 1) := by decide +kernel
theorem d11_55 : decode prog_36_method_5_code 55 = .ok (.goto 4, 3) := by decide +kernel
theorem ef_eq_same (m : MethodId) (a : Addr) (bb : Addr)  : entryFrame m #[(.ref a), (.ref bb)] 3 = mkF m 0 #[.val (.ref a), .val (.ref bb), .unset] [] := by first | (simp [entryFrame, mkF, argsToLocals, Value.category]; done) | rfl
set_option maxRecDepth 65536 in
set_option maxHeartbeats 40000000 in
theorem eq_same (l : Launch) (Z : State) (a0 : Array Value) (hw : ∀ d ∈ tables_1, d.before a0 Z = true) (ws : List Jvm.Cond) (a : Addr) (bb : Addr) (p1 : Addr) (p2 : Addr) (p3 : Addr) (q1 : Addr) (q2 : Addr) (q3 : Addr) (c1 : List Int32) (c2 : List Int32) (c3 : List Int32) (d1 : List Int32) (d2 : List Int32) (d3 : List Int32) (gC : Int32) (h0 : Heap) (n0 : Nat) (Z0 : n0 ≤ h0.size) (O : Old Z n0 h0) (SC : Sta Z Z.heap "java/lang/String" "COMPACT_STRINGS" "Z" (.int gC)) (hgC : ¬ gC = (0 : Int32)) (A : OT Z h0 a p1 p2 p3) (B : OT Z h0 bb q1 q2 q3) (SA1 : StrL Z h0 p1 c1) (SA2 : StrL Z h0 p2 c2) (SA3 : StrL Z h0 p3 c3) (SB1 : StrL Z h0 q1 d1) (SB2 : StrL Z h0 q2 d2) (SB3 : StrL Z h0 q3 d3) (hh1 : p1 = q1 → c1 = d1) (hh2 : p2 = q2 → c2 = d2) (hh3 : p3 = q3 → c3 = d3) :
    MetFree l (⟨"com/example/sure_paths/surepaths/model/ExistentialToClass", "equals", "(Ljava/lang/Object;)Z"⟩ : MethodName) (head1 (Jvm.Cond.code (⟨"com/example/sure_paths/surepaths/model/ExistentialToClass", "equals", "(Ljava/lang/Object;)Z"⟩ : MethodName) prog_36_method_5_code 3 (some .boolean) :: ws) ({ frames := 2, cells := 0, slots := 0, locals := 28 } : Room)) (fun aa' U1' => aa' = #[(.ref a), (.ref bb)] ∧ Z.Warmed39 U1'.vm ∧ U1'.heap = h0) (fun _ _ _ _ _ => True) (fun _ U1' oo' U2' => ∃ vv' LL', oo' = .returned vv' ∧ (Q_eq_same Z a bb p1 p2 p3 q1 q2 q3 c1 c2 c3 d1 d2 d3 gC h0 n0) vv' U2'.heap LL' ∧ FrameEnd U1' oo' U2' LL' ({ frames := 2, cells := 0, slots := 0, locals := 28 } : Room).cells ({ frames := 2, cells := 0, slots := 0, locals := 28 } : Room).slots) := by
  refine MetFree.of_bodySF (plainFor_of_name pn_com_example_sure_paths_surepaths_model_ExistentialToClass) hisR ?_
  intro p e s m args below meth c s₁ Bd hml0 hP hK
  obtain ⟨rfl, hZ, hh⟩ := hP
  have hx := Bd.exec
  have hby := Bd.bytes
  have hml : c.maxLocals = 3 := hml0
  have hown : s.vm.findClass "com/example/sure_paths/surepaths/model/ExistentialToClass" = some m.cls := findClass_of_methodNamed Bd.named
  have hnm := (name_of_methodNamed Bd.named Bd.method).1
  have X0 : Stand p l e ({ frames := 2, cells := 0, slots := 0, locals := 28 } : Room) s m #[(.ref a), (.ref bb)] below meth c s₁ [] 0 0 := Stand.of_body Bd
  have e0 : s₁.heap = h0 := by rw [← hh, Bd.state]; rfl
  have N0 := Fr.nil n0
  refine go_of (A := s₁.setTop (entryFrame m #[(.ref a), (.ref bb)] 3)) (B := s₁.setTop (mkF m 0 #[.val (.ref a), .val (.ref bb), .unset] [])) (fun _ kk' => castTop (ef_eq_same m a bb) kk') ?_
  refine go_of (B := (s₁.setTop (mkF m 1 #[.val (.ref a), .val (.ref bb), .unset] [(.ref bb)]))) (fun _ kk => XS.aloadN X0.here hx rfl (hb hby d11_0) rfl rfl kk) ?_
  obtain ⟨T1, X1, e1, st1⟩ := instY X0 hx hZ hown (hw _ (List.mem_of_getElem? (i := 83) rfl)) e0 (Ins.self B.1) (g := (mkF m 1 #[.val (.ref a), .val (.ref bb), .unset] [(.ref bb)])) rfl rfl (hb hby d11_1)
  refine go_of (B := (T1.setTop (mkF m 4 #[.val (.ref a), .val (.ref bb), .unset] [(.int (1 : Int32))]))) (st1) ?_
  refine go_of (B := (T1.setTop (mkF m 7 #[.val (.ref a), .val (.ref bb), .unset] []))) (fun _ kk => XS.ifNo X1.here hx rfl (hb hby d11_4) rfl ((if0 _ _).trans (feq (by decide : ¬ ((1 : Int32) = (0 : Int32)))).1) kk) ?_
  refine go_of (B := (T1.setTop (mkF m 8 #[.val (.ref a), .val (.ref bb), .unset] [(.ref bb)]))) (fun _ kk => XS.aloadN X1.here hx rfl (hb hby d11_7) rfl rfl kk) ?_
  obtain ⟨T2, X2, e2, st2⟩ := castY X1 hx hZ hown (hw _ (List.mem_of_getElem? (i := 83) rfl)) e1 (Ins.self B.1) (g := (mkF m 8 #[.val (.ref a), .val (.ref bb), .unset] [(.ref bb)])) rfl rfl (hb hby d11_8)
  refine go_of (B := (T2.setTop (mkF m 11 #[.val (.ref a), .val (.ref bb), .unset] [(.ref bb)]))) (st2) ?_
  refine go_of (B := (T2.setTop (mkF m 12 #[.val (.ref a), .val (.ref bb), .val (.ref bb)] []))) (fun _ kk => XS.astoreN X2.here hx rfl (hb hby d11_11) rfl rfl rfl kk) ?_
  refine go_of (B := (T2.setTop (mkF m 13 #[.val (.ref a), .val (.ref bb), .val (.ref bb)] [(.ref a)]))) (fun _ kk => XS.aloadN X2.here hx rfl (hb hby d11_12) rfl rfl kk) ?_
  obtain ⟨T3, X3, e3, st3⟩ := getF X2 hx hZ hown (host := "") (Or.inl (hw _ (List.mem_of_getElem? (i := 52) rfl))) Via.refl e2 A.2.1 (g := (mkF m 13 #[.val (.ref a), .val (.ref bb), .val (.ref bb)] [(.ref a)])) rfl rfl (hb hby d11_13)
  refine go_of (B := (T3.setTop (mkF m 16 #[.val (.ref a), .val (.ref bb), .val (.ref bb)] [(.ref p1)]))) (st3) ?_
  refine go_of (B := (T3.setTop (mkF m 17 #[.val (.ref a), .val (.ref bb), .val (.ref bb)] [(.ref bb), (.ref p1)]))) (fun _ kk => XS.aloadN X3.here hx rfl (hb hby d11_16) rfl rfl kk) ?_
  obtain ⟨T4, X4, e4, st4⟩ := getF X3 hx hZ hown (host := "") (Or.inl (hw _ (List.mem_of_getElem? (i := 52) rfl))) Via.refl e3 B.2.1 (g := (mkF m 17 #[.val (.ref a), .val (.ref bb), .val (.ref bb)] [(.ref bb), (.ref p1)])) rfl rfl (hb hby d11_17)
  refine go_of (B := (T4.setTop (mkF m 20 #[.val (.ref a), .val (.ref bb), .val (.ref bb)] [(.ref q1), (.ref p1)]))) (st4) ?_
  obtain ⟨cq5, kq5, q5a, q5b, q5c⟩ := isOf hZ e4 SA1.exa
  obtain ⟨_, _, ⟨T5, L5, k5, n5⟩, -, X5, ⟨Lc5, hQ5, l5, y5, z5⟩, st5⟩ := X4.virtualBack hx (y := (⟨"java/lang/String", "equals", "(Ljava/lang/Object;)Z"⟩ : MethodName)) (z := (⟨"java/lang/String", "equals", "(Ljava/lang/Object;)Z"⟩ : MethodName)) hown (mvT hZ (hw _ (List.mem_of_getElem? (i := 93) rfl))) (mvT hZ (hw _ (List.mem_of_getElem? (i := 94) rfl))) (notFace_of_selects (args := #[]) (mvT hZ (hw _ (List.mem_of_getElem? (i := 96) rfl)))) (mvT hZ (hw _ (List.mem_of_getElem? (i := 96) rfl))) (mvT hZ (hw _ (List.mem_of_getElem? (i := 95) rfl))) (by decide) (backOf (W := 0) (str_eq l Z a0 hw [] p1 q1 c1 d1 gC h0 n0 Z0 O SC hgC SA1 SB1 hh1) hZ (hw _ (List.mem_of_getElem? (i := 97) rfl)) (hw _ (List.mem_of_getElem? (i := 12) rfl)) (by decide) (by decide)) q5a q5c (g := (mkF m 20 #[.val (.ref a), .val (.ref bb), .val (.ref bb)] [(.ref q1), (.ref p1)])) rfl (by rw [hml]; rfl) (Steps.refl _) (argsL := [(.ref q1)]) (rest := []) (lenOf pd__Ljava_lang_Object__Z rfl) rfl (by show 2 * 0 + _ ≤ _; exact Nat.le_of_eq rfl) (hb hby d11_20) (fun _ _ => ⟨rfl, e4, (by decide : 0 + 0 ≤ _), (by decide : 0 + 0 ≤ _)⟩)
  dsimp only [Pt.U, Pt.locs, Pt.cells, Pt.slots] at X5 l5 y5 z5 st5 hQ5
  subst l5 y5 z5
  obtain ⟨rfl, N5q, e5⟩ := hQ5
  have N5 := Fr.app N0 N5q
  refine go_tr (B := (T5.setTop (mkF m 23 #[.val (.ref a), .val (.ref bb), .val (.ref bb)] [(.int (own_eqv c1 d1))]))) (st5) ?_
  by_cases hc6 : (own_eqv c1 d1) = (0 : Int32)
  · refine go_of (B := (T5.setTop (mkF m 58 #[.val (.ref a), .val (.ref bb), .val (.ref bb)] []))) (fun _ kk => XS.ifYes X5.here hx rfl (pc0 := 23) (pc' := 58) rfl (hb hby d11_23) rfl ((if0 _ _).trans (teq hc6).1) (by decide) (by decide) kk) ?_
    refine go_of (B := (T5.setTop (mkF m 59 #[.val (.ref a), .val (.ref bb), .val (.ref bb)] [(.int (0 : Int32))]))) (fun _ kk => XS.iconst X5.here hx rfl (hb hby d11_58) kk) ?_
    refine go_end X5 (v := some (.int (nar .boolean (0 : Int32)))) (fun h => by rw [Bd.returns] at h; cases h) Bd.notSynchronized (by decide) (by decide) (Q := (Q_eq_same Z a bb p1 p2 p3 q1 q2 q3 c1 c2 c3 d1 d2 d3 gC h0 n0)) ?_ (fun fs hr => retN X5 hx (t := .boolean) Bd.returns (by simp) (hb hby d11_59) hr)
    show (fun (v : Option Value) (h : Heap) (L : List Loc) => v = some (.int (own_eq3 c1 d1 c2 d2 c3 d3)) ∧ Fr n0 L ∧ h = h0) (some (.int (nar .boolean (0 : Int32)))) T5.heap _
    rw [e5]
    refine ⟨?_, N5, rfl⟩
    rw [own_eqv0] at hc6
    simp_all [own_eq3, nar]
  · refine go_of (B := (T5.setTop (mkF m 26 #[.val (.ref a), .val (.ref bb), .val (.ref bb)] []))) (fun _ kk => XS.ifNo X5.here hx rfl (hb hby d11_23) rfl ((if0 _ _).trans (feq hc6).1) kk) ?_
    refine go_of (B := (T5.setTop (mkF m 27 #[.val (.ref a), .val (.ref bb), .val (.ref bb)] [(.ref a)]))) (fun _ kk => XS.aloadN X5.here hx rfl (hb hby d11_26) rfl rfl kk) ?_
    obtain ⟨T7, X7, e7, st7⟩ := getF X5 hx hZ hown (host := "") (Or.inl (hw _ (List.mem_of_getElem? (i := 55) rfl))) Via.refl e5 A.2.2.1 (g := (mkF m 27 #[.val (.ref a), .val (.ref bb), .val (.ref bb)] [(.ref a)])) rfl rfl (hb hby d11_27)
    refine go_of (B := (T7.setTop (mkF m 30 #[.val (.ref a), .val (.ref bb), .val (.ref bb)] [(.ref p2)]))) (st7) ?_
    refine go_of (B := (T7.setTop (mkF m 31 #[.val (.ref a), .val (.ref bb), .val (.ref bb)] [(.ref bb), (.ref p2)]))) (fun _ kk => XS.aloadN X7.here hx rfl (hb hby d11_30) rfl rfl kk) ?_
    obtain ⟨T8, X8, e8, st8⟩ := getF X7 hx hZ hown (host := "") (Or.inl (hw _ (List.mem_of_getElem? (i := 55) rfl))) Via.refl e7 B.2.2.1 (g := (mkF m 31 #[.val (.ref a), .val (.ref bb), .val (.ref bb)] [(.ref bb), (.ref p2)])) rfl rfl (hb hby d11_31)
    refine go_of (B := (T8.setTop (mkF m 34 #[.val (.ref a), .val (.ref bb), .val (.ref bb)] [(.ref q2), (.ref p2)]))) (st8) ?_
    obtain ⟨cq9, kq9, q9a, q9b, q9c⟩ := isOf hZ e8 SA2.exa
    obtain ⟨_, _, ⟨T9, L9, k9, n9⟩, -, X9, ⟨Lc9, hQ9, l9, y9, z9⟩, st9⟩ := X8.virtualBack hx (y := (⟨"java/lang/String", "equals", "(Ljava/lang/Object;)Z"⟩ : MethodName)) (z := (⟨"java/lang/String", "equals", "(Ljava/lang/Object;)Z"⟩ : MethodName)) hown (mvT hZ (hw _ (List.mem_of_getElem? (i := 93) rfl))) (mvT hZ (hw _ (List.mem_of_getElem? (i := 94) rfl))) (notFace_of_selects (args := #[]) (mvT hZ (hw _ (List.mem_of_getElem? (i := 96) rfl)))) (mvT hZ (hw _ (List.mem_of_getElem? (i := 96) rfl))) (mvT hZ (hw _ (List.mem_of_getElem? (i := 95) rfl))) (by decide) (backOf (W := 0) (str_eq l Z a0 hw [] p2 q2 c2 d2 gC h0 n0 Z0 O SC hgC SA2 SB2 hh2) hZ (hw _ (List.mem_of_getElem? (i := 97) rfl)) (hw _ (List.mem_of_getElem? (i := 12) rfl)) (by decide) (by decide)) q9a q9c (g := (mkF m 34 #[.val (.ref a), .val (.ref bb), .val (.ref bb)] [(.ref q2), (.ref p2)])) rfl (by rw [hml]; rfl) (Steps.refl _) (argsL := [(.ref q2)]) (rest := []) (lenOf pd__Ljava_lang_Object__Z rfl) rfl (by show 2 * 0 + _ ≤ _; exact Nat.le_of_eq rfl) (hb hby d11_34) (fun _ _ => ⟨rfl, e8, (by decide : 0 + 0 ≤ _), (by decide : 0 + 0 ≤ _)⟩)
    dsimp only [Pt.U, Pt.locs, Pt.cells, Pt.slots] at X9 l9 y9 z9 st9 hQ9
    subst l9 y9 z9
    obtain ⟨rfl, N9q, e9⟩ := hQ9
    have N9 := Fr.app N5 N9q
    refine go_tr (B := (T9.setTop (mkF m 37 #[.val (.ref a), .val (.ref bb), .val (.ref bb)] [(.int (own_eqv c2 d2))]))) (st9) ?_
    by_cases hc10 : (own_eqv c2 d2) = (0 : Int32)
    · refine go_of (B := (T9.setTop (mkF m 58 #[.val (.ref a), .val (.ref bb), .val (.ref bb)] []))) (fun _ kk => XS.ifYes X9.here hx rfl (pc0 := 37) (pc' := 58) rfl (hb hby d11_37) rfl ((if0 _ _).trans (teq hc10).1) (by decide) (by decide) kk) ?_
      refine go_of (B := (T9.setTop (mkF m 59 #[.val (.ref a), .val (.ref bb), .val (.ref bb)] [(.int (0 : Int32))]))) (fun _ kk => XS.iconst X9.here hx rfl (hb hby d11_58) kk) ?_
      refine go_end X9 (v := some (.int (nar .boolean (0 : Int32)))) (fun h => by rw [Bd.returns] at h; cases h) Bd.notSynchronized (by decide) (by decide) (Q := (Q_eq_same Z a bb p1 p2 p3 q1 q2 q3 c1 c2 c3 d1 d2 d3 gC h0 n0)) ?_ (fun fs hr => retN X9 hx (t := .boolean) Bd.returns (by simp) (hb hby d11_59) hr)
      show (fun (v : Option Value) (h : Heap) (L : List Loc) => v = some (.int (own_eq3 c1 d1 c2 d2 c3 d3)) ∧ Fr n0 L ∧ h = h0) (some (.int (nar .boolean (0 : Int32)))) T9.heap _
      rw [e9]
      refine ⟨?_, N9, rfl⟩
      rw [own_eqv0] at hc6
      rw [own_eqv0] at hc10
      simp_all [own_eq3, nar]
    · refine go_of (B := (T9.setTop (mkF m 40 #[.val (.ref a), .val (.ref bb), .val (.ref bb)] []))) (fun _ kk => XS.ifNo X9.here hx rfl (hb hby d11_37) rfl ((if0 _ _).trans (feq hc10).1) kk) ?_
      refine go_of (B := (T9.setTop (mkF m 41 #[.val (.ref a), .val (.ref bb), .val (.ref bb)] [(.ref a)]))) (fun _ kk => XS.aloadN X9.here hx rfl (hb hby d11_40) rfl rfl kk) ?_
      obtain ⟨T11, X11, e11, st11⟩ := getF X9 hx hZ hown (host := "") (Or.inl (hw _ (List.mem_of_getElem? (i := 58) rfl))) Via.refl e9 A.2.2.2 (g := (mkF m 41 #[.val (.ref a), .val (.ref bb), .val (.ref bb)] [(.ref a)])) rfl rfl (hb hby d11_41)
      refine go_of (B := (T11.setTop (mkF m 44 #[.val (.ref a), .val (.ref bb), .val (.ref bb)] [(.ref p3)]))) (st11) ?_
      refine go_of (B := (T11.setTop (mkF m 45 #[.val (.ref a), .val (.ref bb), .val (.ref bb)] [(.ref bb), (.ref p3)]))) (fun _ kk => XS.aloadN X11.here hx rfl (hb hby d11_44) rfl rfl kk) ?_
      obtain ⟨T12, X12, e12, st12⟩ := getF X11 hx hZ hown (host := "") (Or.inl (hw _ (List.mem_of_getElem? (i := 58) rfl))) Via.refl e11 B.2.2.2 (g := (mkF m 45 #[.val (.ref a), .val (.ref bb), .val (.ref bb)] [(.ref bb), (.ref p3)])) rfl rfl (hb hby d11_45)
      refine go_of (B := (T12.setTop (mkF m 48 #[.val (.ref a), .val (.ref bb), .val (.ref bb)] [(.ref q3), (.ref p3)]))) (st12) ?_
      obtain ⟨cq13, kq13, q13a, q13b, q13c⟩ := isOf hZ e12 SA3.exa
      obtain ⟨_, _, ⟨T13, L13, k13, n13⟩, -, X13, ⟨Lc13, hQ13, l13, y13, z13⟩, st13⟩ := X12.virtualBack hx (y := (⟨"java/lang/String", "equals", "(Ljava/lang/Object;)Z"⟩ : MethodName)) (z := (⟨"java/lang/String", "equals", "(Ljava/lang/Object;)Z"⟩ : MethodName)) hown (mvT hZ (hw _ (List.mem_of_getElem? (i := 93) rfl))) (mvT hZ (hw _ (List.mem_of_getElem? (i := 94) rfl))) (notFace_of_selects (args := #[]) (mvT hZ (hw _ (List.mem_of_getElem? (i := 96) rfl)))) (mvT hZ (hw _ (List.mem_of_getElem? (i := 96) rfl))) (mvT hZ (hw _ (List.mem_of_getElem? (i := 95) rfl))) (by decide) (backOf (W := 0) (str_eq l Z a0 hw [] p3 q3 c3 d3 gC h0 n0 Z0 O SC hgC SA3 SB3 hh3) hZ (hw _ (List.mem_of_getElem? (i := 97) rfl)) (hw _ (List.mem_of_getElem? (i := 12) rfl)) (by decide) (by decide)) q13a q13c (g := (mkF m 48 #[.val (.ref a), .val (.ref bb), .val (.ref bb)] [(.ref q3), (.ref p3)])) rfl (by rw [hml]; rfl) (Steps.refl _) (argsL := [(.ref q3)]) (rest := []) (lenOf pd__Ljava_lang_Object__Z rfl) rfl (by show 2 * 0 + _ ≤ _; exact Nat.le_of_eq rfl) (hb hby d11_48) (fun _ _ => ⟨rfl, e12, (by decide : 0 + 0 ≤ _), (by decide : 0 + 0 ≤ _)⟩)
      dsimp only [Pt.U, Pt.locs, Pt.cells, Pt.slots] at X13 l13 y13 z13 st13 hQ13
      subst l13 y13 z13
      obtain ⟨rfl, N13q, e13⟩ := hQ13
      have N13 := Fr.app N9 N13q
      refine go_tr (B := (T13.setTop (mkF m 51 #[.val (.ref a), .val (.ref bb), .val (.ref bb)] [(.int (own_eqv c3 d3))]))) (st13) ?_
      by_cases hc14 : (own_eqv c3 d3) = (0 : Int32)
      · refine go_of (B := (T13.setTop (mkF m 58 #[.val (.ref a), .val (.ref bb), .val (.ref bb)] []))) (fun _ kk => XS.ifYes X13.here hx rfl (pc0 := 51) (pc' := 58) rfl (hb hby d11_51) rfl ((if0 _ _).trans (teq hc14).1) (by decide) (by decide) kk) ?_
        refine go_of (B := (T13.setTop (mkF m 59 #[.val (.ref a), .val (.ref bb), .val (.ref bb)] [(.int (0 : Int32))]))) (fun _ kk => XS.iconst X13.here hx rfl (hb hby d11_58) kk) ?_
        refine go_end X13 (v := some (.int (nar .boolean (0 : Int32)))) (fun h => by rw [Bd.returns] at h; cases h) Bd.notSynchronized (by decide) (by decide) (Q := (Q_eq_same Z a bb p1 p2 p3 q1 q2 q3 c1 c2 c3 d1 d2 d3 gC h0 n0)) ?_ (fun fs hr => retN X13 hx (t := .boolean) Bd.returns (by simp) (hb hby d11_59) hr)
        show (fun (v : Option Value) (h : Heap) (L : List Loc) => v = some (.int (own_eq3 c1 d1 c2 d2 c3 d3)) ∧ Fr n0 L ∧ h = h0) (some (.int (nar .boolean (0 : Int32)))) T13.heap _
        rw [e13]
        refine ⟨?_, N13, rfl⟩
        rw [own_eqv0] at hc6
        rw [own_eqv0] at hc10
        rw [own_eqv0] at hc14
        simp_all [own_eq3, nar]
      · refine go_of (B := (T13.setTop (mkF m 54 #[.val (.ref a), .val (.ref bb), .val (.ref bb)] []))) (fun _ kk => XS.ifNo X13.here hx rfl (hb hby d11_51) rfl ((if0 _ _).trans (feq hc14).1) kk) ?_
        refine go_of (B := (T13.setTop (mkF m 55 #[.val (.ref a), .val (.ref bb), .val (.ref bb)] [(.int (1 : Int32))]))) (fun _ kk => XS.iconst X13.here hx rfl (hb hby d11_54) kk) ?_
        refine go_of (B := (T13.setTop (mkF m 59 #[.val (.ref a), .val (.ref bb), .val (.ref bb)] [(.int (1 : Int32))]))) (fun _ kk => XS.goto X13.here hx rfl (pc0 := 55) (pc' := 59) rfl (hb hby d11_55) (by decide) (by decide) kk) ?_
        refine go_end X13 (v := some (.int (nar .boolean (1 : Int32)))) (fun h => by rw [Bd.returns] at h; cases h) Bd.notSynchronized (by decide) (by decide) (Q := (Q_eq_same Z a bb p1 p2 p3 q1 q2 q3 c1 c2 c3 d1 d2 d3 gC h0 n0)) ?_ (fun fs hr => retN X13 hx (t := .boolean) Bd.returns (by simp) (hb hby d11_59) hr)
        show (fun (v : Option Value) (h : Heap) (L : List Loc) => v = some (.int (own_eq3 c1 d1 c2 d2 c3 d3)) ∧ Fr n0 L ∧ h = h0) (some (.int (nar .boolean (1 : Int32)))) T13.heap _
        rw [e13]
        refine ⟨?_, N13, rfl⟩
        rw [own_eqv0] at hc6
        rw [own_eqv0] at hc10
        rw [own_eqv0] at hc14
        simp_all [own_eq3, nar]
theorem pd__I_Ljava_lang_String_ : parseMethodDescriptor "(I)Ljava/lang/String;" = some ⟨[.int], some (.object "java/lang/String")⟩ := by decide +kernel
theorem pd__Ljava_lang_String_Ljava_lang_String_Ljava_lang_String__V : parseMethodDescriptor "(Ljava/lang/String;Ljava/lang/String;Ljava/lang/String;)V" = some ⟨[(.object "java/lang/String"), (.object "java/lang/String"), (.object "java/lang/String")], none⟩ := by decide +kernel
theorem pd__I_Z : parseMethodDescriptor "(I)Z" = some ⟨[.int], some .boolean⟩ := by decide +kernel
def Q_rm0 (Z : State) (pa : Int32) (fa : Int32) (sa : Int32) (md : Int32) (gC : Int32) (h0 : Heap) (n0 : Nat) (v : Option Value) (h : Heap) (L : List Loc) : Prop := v = some (.int 1) ∧ Fr n0 L
theorem ef_rm0 (m : MethodId) (pa : Int32) (fa : Int32) (sa : Int32) (md : Int32)  : entryFrame m #[(.int pa), (.int fa), (.int sa), (.int md)] maxLocals = mkF m 0 #[.val (.int pa), .val (.int fa), .val (.int sa), .val (.int md), .unset, .unset, .unset, .unset] [] := by first | (simp [entryFrame, mkF, argsToLocals, Value.category, maxLocals]; done) | rfl
set_option maxRecDepth 65536 in
set_option maxHeartbeats 40000000 in
theorem rm0 (l : Launch) (Z : State) (a0 : Array Value) (hw : ∀ d ∈ tables_1, d.before a0 Z = true) (ws : List Jvm.Cond) (pa : Int32) (fa : Int32) (sa : Int32) (md : Int32) (gC : Int32) (h0 : Heap) (n0 : Nat) (Z0 : n0 ≤ h0.size) (O : Old Z n0 h0) (SC : Sta Z Z.heap "java/lang/String" "COMPACT_STRINGS" "Z" (.int gC)) (hgC : ¬ gC = (0 : Int32)) :
    MetFree l x (head1 (Jvm.Cond.code x code maxLocals ret :: ws) room_1) (fun aa' U1' => aa' = #[(.int pa), (.int fa), (.int sa), (.int md)] ∧ Z.Warmed39 U1'.vm ∧ U1'.heap = h0) (fun _ _ _ _ _ => True) (fun _ U1' oo' U2' => ∃ vv' LL', oo' = .returned vv' ∧ (Q_rm0 Z pa fa sa md gC h0 n0) vv' U2'.heap LL' ∧ ReturnedEndW U1' oo' U2' LL' room_1.cells room_1.slots) := by
  refine MetFree.of_bodySF (plainFor_of_name pn_com_example_sure_paths_surepaths_model_ExistentialToClassEqualsPinLaw) hisR ?_
  intro p e s m args below meth c s₁ Bd hml0 hP hK
  obtain ⟨rfl, hZ, hh⟩ := hP
  have hx := Bd.exec
  have hby := Bd.bytes
  have hml : c.maxLocals = 8 := hml0
  have hown : s.vm.findClass "com/example/sure_paths/surepaths/model/ExistentialToClassEqualsPinLaw" = some m.cls := findClass_of_methodNamed Bd.named
  have hnm := (name_of_methodNamed Bd.named Bd.method).1
  have X0 : Stand p l e room_1 (s.setVm s.vm) m #[(.int pa), (.int fa), (.int sa), (.int md)] below meth c s₁ [] 0 0 := Stand.of_body Bd
  have e0 : s₁.heap = h0 := by rw [← hh, Bd.state]; rfl
  have N0 := Fr.nil n0
  have hS : s.Since s.vm 0 := (State.WarmedH.refl s).since 0
  refine go_of (A := s₁.setTop (entryFrame m #[(.int pa), (.int fa), (.int sa), (.int md)] maxLocals)) (B := s₁.setTop (mkF m 0 #[.val (.int pa), .val (.int fa), .val (.int sa), .val (.int md), .unset, .unset, .unset, .unset] [])) (fun _ kk' => castTop (ef_rm0 m pa fa sa md) kk') ?_
  obtain ⟨T1, h1, X1, e1, E1, A1, D1, -, st1⟩ := newO X0 hx hZ hown (hw _ (List.mem_of_getElem? (i := 0) rfl)) (hw _ (List.mem_of_getElem? (i := 1) rfl)) (hw _ (List.mem_of_getElem? (i := 2) rfl)) e0 (g := (mkF m 0 #[.val (.int pa), .val (.int fa), .val (.int sa), .val (.int md), .unset, .unset, .unset, .unset] [])) rfl (hb hby at_0) (by decide) (by decide)
  obtain ⟨b1, g1⟩ : ∃ z, z = h0.size := ⟨_, rfl⟩
  rw [← g1] at A1 D1 st1
  have hi1 := own_nlt A1.lt
  have sz1 := E1.1
  have F1_property : Fld Z h1 b1 "com/example/sure_paths/surepaths/model/ExistentialToClass" "property" "Ljava/lang/String;" .null := D1 (Or.inr (hw _ (List.mem_of_getElem? (i := 53) rfl))) (ty := (.object "java/lang/String")) (by decide)
  have F1_filler : Fld Z h1 b1 "com/example/sure_paths/surepaths/model/ExistentialToClass" "filler" "Ljava/lang/String;" .null := D1 (Or.inr (hw _ (List.mem_of_getElem? (i := 56) rfl))) (ty := (.object "java/lang/String")) (by decide)
  have F1_superClass : Fld Z h1 b1 "com/example/sure_paths/surepaths/model/ExistentialToClass" "superClass" "Ljava/lang/String;" .null := D1 (Or.inr (hw _ (List.mem_of_getElem? (i := 59) rfl))) (ty := (.object "java/lang/String")) (by decide)
  refine go_of (B := (T1.setTop (mkF m 3 #[.val (.int pa), .val (.int fa), .val (.int sa), .val (.int md), .unset, .unset, .unset, .unset] [(.ref b1)]))) (st1) ?_
  refine go_of (B := (T1.setTop (mkF m 4 #[.val (.int pa), .val (.int fa), .val (.int sa), .val (.int md), .unset, .unset, .unset, .unset] [(.ref b1), (.ref b1)]))) (fun _ kk => XS.dup X1.here hx rfl (hb hby at_3) rfl rfl kk) ?_
  refine go_of (B := (T1.setTop (mkF m 5 #[.val (.int pa), .val (.int fa), .val (.int sa), .val (.int md), .unset, .unset, .unset, .unset] [(.int pa), (.ref b1), (.ref b1)]))) (fun _ kk => XS.iloadN X1.here hx rfl (hb hby at_4) rfl kk) ?_
  have cf_2 := (O.ext E1)
  obtain ⟨_, _, ⟨T3, L3, k3, n3⟩, -, X3, ⟨Lc3, hQ3, l3, y3, z3⟩, st3⟩ := Jvm.LawKit.callS X1 hx (y := (⟨"com/example/sure_paths/surepaths/model/ExistentialToClassEqualsPinLaw", "mine", "(I)Ljava/lang/String;"⟩ : MethodName)) hown (mvT hZ (hw _ (List.mem_of_getElem? (i := 3) rfl))) (mvT hZ (hw _ (List.mem_of_getElem? (i := 4) rfl))) (mvT hZ (hw _ (List.mem_of_getElem? (i := 5) rfl))) (mvT hZ (hw _ (List.mem_of_getElem? (i := 6) rfl))) (by decide) (backOf (W := 2) (rm1 l Z a0 hw [] pa gC h1 n0 (by first | omega | exact own_ne (by omega) | exact own_le (by omega) | exact own_lt (by omega)) cf_2 SC hgC) hZ (hw _ (List.mem_of_getElem? (i := 6) rfl)) (hw _ (List.mem_of_getElem? (i := 5) rfl)) (by decide) (by decide)) (g := (mkF m 5 #[.val (.int pa), .val (.int fa), .val (.int sa), .val (.int md), .unset, .unset, .unset, .unset] [(.int pa), (.ref b1), (.ref b1)])) rfl (by rw [hml]; rfl) (argsL := [(.int pa)]) (rest := [(.ref b1), (.ref b1)]) (lenOf pd__I_Ljava_lang_String_ rfl) rfl (by show 2 * 0 + _ ≤ _; exact Nat.le_of_eq rfl) (hb hby at_5) (fun _ _ => ⟨rfl, e1, (by decide : 1 + 3 ≤ _), (by decide : 3 + 6 ≤ _)⟩)
  dsimp only [Pt.U, Pt.locs, Pt.cells, Pt.slots] at X3 l3 y3 z3 st3 hQ3
  subst l3 y3 z3
  obtain ⟨b3, rfl, N3q, lo3, K3, S3⟩ := hQ3
  have lo3 := own_nle lo3
  have N3 := Fr.app N0 N3q
  have hi3 := own_nlt (S3.exa.lt)
  have sz3 := K3.1
  refine go_of (B := (T3.setTop (mkF m 8 #[.val (.int pa), .val (.int fa), .val (.int sa), .val (.int md), .unset, .unset, .unset, .unset] [(.ref b3), (.ref b1), (.ref b1)]))) (st3) ?_
  refine go_of (B := (T3.setTop (mkF m 9 #[.val (.int pa), .val (.int fa), .val (.int sa), .val (.int md), .unset, .unset, .unset, .unset] [(.int fa), (.ref b3), (.ref b1), (.ref b1)]))) (fun _ kk => XS.iloadN X3.here hx rfl (hb hby at_8) rfl kk) ?_
  have cf_4 := (cf_2.keep K3 all0)
  obtain ⟨_, _, ⟨T5, L5, k5, n5⟩, -, X5, ⟨Lc5, hQ5, l5, y5, z5⟩, st5⟩ := Jvm.LawKit.callS X3 hx (y := (⟨"com/example/sure_paths/surepaths/model/ExistentialToClassEqualsPinLaw", "mine", "(I)Ljava/lang/String;"⟩ : MethodName)) hown (mvT hZ (hw _ (List.mem_of_getElem? (i := 3) rfl))) (mvT hZ (hw _ (List.mem_of_getElem? (i := 4) rfl))) (mvT hZ (hw _ (List.mem_of_getElem? (i := 5) rfl))) (mvT hZ (hw _ (List.mem_of_getElem? (i := 6) rfl))) (by decide) (backOf (W := 3) (rm1 l Z a0 hw [] fa gC T3.heap n0 (by first | omega | exact own_ne (by omega) | exact own_le (by omega) | exact own_lt (by omega)) cf_4 SC hgC) hZ (hw _ (List.mem_of_getElem? (i := 6) rfl)) (hw _ (List.mem_of_getElem? (i := 5) rfl)) (by decide) (by decide)) (g := (mkF m 9 #[.val (.int pa), .val (.int fa), .val (.int sa), .val (.int md), .unset, .unset, .unset, .unset] [(.int fa), (.ref b3), (.ref b1), (.ref b1)])) rfl (by rw [hml]; rfl) (argsL := [(.int fa)]) (rest := [(.ref b3), (.ref b1), (.ref b1)]) (lenOf pd__I_Ljava_lang_String_ rfl) rfl (by show 2 * 0 + _ ≤ _; exact Nat.le_of_eq rfl) (hb hby at_9) (fun _ _ => ⟨rfl, rfl, (by decide : 4 + 3 ≤ _), (by decide : 9 + 6 ≤ _)⟩)
  dsimp only [Pt.U, Pt.locs, Pt.cells, Pt.slots] at X5 l5 y5 z5 st5 hQ5
  subst l5 y5 z5
  obtain ⟨b5, rfl, N5q, lo5, K5, S5⟩ := hQ5
  have lo5 := own_nle lo5
  have N5 := Fr.app N3 N5q
  have hi5 := own_nlt (S5.exa.lt)
  have sz5 := K5.1
  refine go_of (B := (T5.setTop (mkF m 12 #[.val (.int pa), .val (.int fa), .val (.int sa), .val (.int md), .unset, .unset, .unset, .unset] [(.ref b5), (.ref b3), (.ref b1), (.ref b1)]))) (st5) ?_
  refine go_of (B := (T5.setTop (mkF m 13 #[.val (.int pa), .val (.int fa), .val (.int sa), .val (.int md), .unset, .unset, .unset, .unset] [(.int sa), (.ref b5), (.ref b3), (.ref b1), (.ref b1)]))) (fun _ kk => XS.iloadN X5.here hx rfl (hb hby at_12) rfl kk) ?_
  have cf_6 := (cf_4.keep K5 all0)
  obtain ⟨_, _, ⟨T7, L7, k7, n7⟩, -, X7, ⟨Lc7, hQ7, l7, y7, z7⟩, st7⟩ := Jvm.LawKit.callS X5 hx (y := (⟨"com/example/sure_paths/surepaths/model/ExistentialToClassEqualsPinLaw", "mine", "(I)Ljava/lang/String;"⟩ : MethodName)) hown (mvT hZ (hw _ (List.mem_of_getElem? (i := 3) rfl))) (mvT hZ (hw _ (List.mem_of_getElem? (i := 4) rfl))) (mvT hZ (hw _ (List.mem_of_getElem? (i := 5) rfl))) (mvT hZ (hw _ (List.mem_of_getElem? (i := 6) rfl))) (by decide) (backOf (W := 4) (rm1 l Z a0 hw [] sa gC T5.heap n0 (by first | omega | exact own_ne (by omega) | exact own_le (by omega) | exact own_lt (by omega)) cf_6 SC hgC) hZ (hw _ (List.mem_of_getElem? (i := 6) rfl)) (hw _ (List.mem_of_getElem? (i := 5) rfl)) (by decide) (by decide)) (g := (mkF m 13 #[.val (.int pa), .val (.int fa), .val (.int sa), .val (.int md), .unset, .unset, .unset, .unset] [(.int sa), (.ref b5), (.ref b3), (.ref b1), (.ref b1)])) rfl (by rw [hml]; rfl) (argsL := [(.int sa)]) (rest := [(.ref b5), (.ref b3), (.ref b1), (.ref b1)]) (lenOf pd__I_Ljava_lang_String_ rfl) rfl (by show 2 * 0 + _ ≤ _; exact Nat.le_of_eq rfl) (hb hby at_13) (fun _ _ => ⟨rfl, rfl, (by decide : 7 + 3 ≤ _), (by decide : 15 + 6 ≤ _)⟩)
  dsimp only [Pt.U, Pt.locs, Pt.cells, Pt.slots] at X7 l7 y7 z7 st7 hQ7
  subst l7 y7 z7
  obtain ⟨b7, rfl, N7q, lo7, K7, S7⟩ := hQ7
  have lo7 := own_nle lo7
  have N7 := Fr.app N5 N7q
  have hi7 := own_nlt (S7.exa.lt)
  have sz7 := K7.1
  refine go_of (B := (T7.setTop (mkF m 16 #[.val (.int pa), .val (.int fa), .val (.int sa), .val (.int md), .unset, .unset, .unset, .unset] [(.ref b7), (.ref b5), (.ref b3), (.ref b1), (.ref b1)]))) (st7) ?_
  have cf_8 := (((A1.keep K3).keep K5).keep K7)
  have cf_9 := (((F1_property.keep K3 nin0).keep K5 nin0).keep K7 nin0)
  have cf_10 := (((F1_filler.keep K3 nin0).keep K5 nin0).keep K7 nin0)
  have cf_11 := (((F1_superClass.keep K3 nin0).keep K5 nin0).keep K7 nin0)
  have cf_12 := ((S3.exa.keep K5).keep K7)
  have cf_13 := (S5.exa.keep K7)
  obtain ⟨_, _, ⟨T14, L14, k14, n14⟩, -, X14', hS14', gr14, ⟨Lc14, hQ14, l14, y14, z14⟩, st14⟩ := X7.specialBackS hx (y := (⟨"com/example/sure_paths/surepaths/model/ExistentialToClass", "<init>", "(Ljava/lang/String;Ljava/lang/String;Ljava/lang/String;)V"⟩ : MethodName)) rfl hown (mvT hZ (hw _ (List.mem_of_getElem? (i := 40) rfl))) (mvT hZ (hw _ (List.mem_of_getElem? (i := 41) rfl))) (mvT hZ (hw _ (List.mem_of_getElem? (i := 42) rfl))) (by decide) (backOfS (W := 1) (rm9 l Z a0 hw [] b1 b3 b5 b7 _ _ _ T7.heap n0 (by first | omega | exact own_ne (by omega) | exact own_le (by omega) | exact own_lt (by omega)) cf_8 cf_9 cf_10 cf_11 (by first | omega | exact own_ne (by omega) | exact own_le (by omega) | exact own_lt (by omega)) cf_12 cf_13 S7.exa) hZ (hw _ (List.mem_of_getElem? (i := 42) rfl)) (hw _ (List.mem_of_getElem? (i := 2) rfl)) (by decide) (by decide)) (g := (mkF m 16 #[.val (.int pa), .val (.int fa), .val (.int sa), .val (.int md), .unset, .unset, .unset, .unset] [(.ref b7), (.ref b5), (.ref b3), (.ref b1), (.ref b1)])) rfl (by rw [hml]; rfl) (Steps.refl _) (a := b1) (argsL := [(.ref b3), (.ref b5), (.ref b7)]) (rest := [(.ref b1)]) (lenOf pd__Ljava_lang_String_Ljava_lang_String_Ljava_lang_String__V rfl) rfl (by show 2 * 0 + _ ≤ _; exact Nat.le_of_eq rfl) (hb hby at_16) (fun _ _ => ⟨rfl, rfl, (by decide : 10 + 6 ≤ _), (by decide : 21 + 108 ≤ _)⟩)
  dsimp only [Pt.U, Pt.locs, Pt.cells, Pt.slots] at X14' hS14' gr14 l14 y14 z14 st14 hQ14
  subst l14 y14 z14
  have X14 : Stand _ _ _ _ (s.setVm T14.vm) _ _ _ _ _ T14 _ _ _ := X14'
  have hS : s.Since T14.vm T14.heap.size := foldS hS (by first | omega | exact own_ne (by omega) | exact own_le (by omega) | exact own_lt (by omega)) hS14' gr14
  have hZ : Z.Warmed39 (s.setVm T14.vm).vm := State.Warmed39.trans (t := s.setVm s.vm) hZ hS14'.1
  have hown : (s.setVm T14.vm).vm.findClass "com/example/sure_paths/surepaths/model/ExistentialToClassEqualsPinLaw" = some m.cls := by rw [show (s.setVm T14.vm).vm = T14.vm from rfl, hS14'.1.alike.findClass]; exact hown
  obtain ⟨rfl, N14q, K14, A14⟩ := hQ14
  have N14 := Fr.app N7 N14q
  have sz14 := K14.1
  refine go_tr (B := (T14.setTop (mkF m 19 #[.val (.int pa), .val (.int fa), .val (.int sa), .val (.int md), .unset, .unset, .unset, .unset] [(.ref b1)]))) (st14) ?_
  refine go_of (B := (T14.setTop (mkF m 21 #[.val (.int pa), .val (.int fa), .val (.int sa), .val (.int md), .val (.ref b1), .unset, .unset, .unset] []))) (fun _ kk => XS.astore X14.here hx rfl (hb hby at_19) rfl rfl rfl kk) ?_
  refine go_of (B := (T14.setTop (mkF m 22 #[.val (.int pa), .val (.int fa), .val (.int sa), .val (.int md), .val (.ref b1), .unset, .unset, .unset] [(.int md)]))) (fun _ kk => XS.iloadN X14.here hx rfl (hb hby at_21) rfl kk) ?_
  refine go_of (B := (T14.setTop (mkF m 23 #[.val (.int pa), .val (.int fa), .val (.int sa), .val (.int md), .val (.ref b1), .unset, .unset, .unset] [(.int (3 : Int32)), (.int md)]))) (fun _ kk => XS.iconst X14.here hx rfl (hb hby at_22) kk) ?_
  refine go_of (B := (T14.setTop (mkF m 24 #[.val (.int pa), .val (.int fa), .val (.int sa), .val (.int md), .val (.ref b1), .unset, .unset, .unset] [(.int (md &&& (3 : Int32)))]))) (fun _ kk => XS.iand X14.here hx rfl (hb hby at_23) rfl kk) ?_
  refine go_of (B := (T14.setTop (mkF m 26 #[.val (.int pa), .val (.int fa), .val (.int sa), .val (.int md), .val (.ref b1), .val (.int (md &&& (3 : Int32))), .unset, .unset] []))) (fun _ kk => XS.istore X14.here hx rfl (hb hby at_24) rfl rfl kk) ?_
  refine go_of (B := (T14.setTop (mkF m 28 #[.val (.int pa), .val (.int fa), .val (.int sa), .val (.int md), .val (.ref b1), .val (.int (md &&& (3 : Int32))), .unset, .unset] [(.int (md &&& (3 : Int32)))]))) (fun _ kk => XS.iload X14.here hx rfl (hb hby at_26) rfl kk) ?_
  by_cases hc15 : (md &&& (3 : Int32)) = (0 : Int32)
  · refine go_of (B := (T14.setTop (mkF m 31 #[.val (.int pa), .val (.int fa), .val (.int sa), .val (.int md), .val (.ref b1), .val (.int (md &&& (3 : Int32))), .unset, .unset] []))) (fun _ kk => XS.ifNo X14.here hx rfl (hb hby at_28) rfl ((if0 _ _).trans (teq hc15).2) kk) ?_
    obtain ⟨T16, h16, X16, e16, E16, A16, D16, -, st16⟩ := newO X14 hx hZ hown (hw _ (List.mem_of_getElem? (i := 0) rfl)) (hw _ (List.mem_of_getElem? (i := 1) rfl)) (hw _ (List.mem_of_getElem? (i := 2) rfl)) rfl (g := (mkF m 31 #[.val (.int pa), .val (.int fa), .val (.int sa), .val (.int md), .val (.ref b1), .val (.int (md &&& (3 : Int32))), .unset, .unset] [])) rfl (hb hby at_31) (by decide) (by decide)
    obtain ⟨b16, g16⟩ : ∃ z, z = T14.heap.size := ⟨_, rfl⟩
    rw [← g16] at A16 D16 st16
    have hi16 := own_nlt A16.lt
    have sz16 := E16.1
    have F16_property : Fld Z h16 b16 "com/example/sure_paths/surepaths/model/ExistentialToClass" "property" "Ljava/lang/String;" .null := D16 (Or.inr (hw _ (List.mem_of_getElem? (i := 53) rfl))) (ty := (.object "java/lang/String")) (by decide)
    have F16_filler : Fld Z h16 b16 "com/example/sure_paths/surepaths/model/ExistentialToClass" "filler" "Ljava/lang/String;" .null := D16 (Or.inr (hw _ (List.mem_of_getElem? (i := 56) rfl))) (ty := (.object "java/lang/String")) (by decide)
    have F16_superClass : Fld Z h16 b16 "com/example/sure_paths/surepaths/model/ExistentialToClass" "superClass" "Ljava/lang/String;" .null := D16 (Or.inr (hw _ (List.mem_of_getElem? (i := 59) rfl))) (ty := (.object "java/lang/String")) (by decide)
    refine go_of (B := (T16.setTop (mkF m 34 #[.val (.int pa), .val (.int fa), .val (.int sa), .val (.int md), .val (.ref b1), .val (.int (md &&& (3 : Int32))), .unset, .unset] [(.ref b16)]))) (st16) ?_
    refine go_of (B := (T16.setTop (mkF m 35 #[.val (.int pa), .val (.int fa), .val (.int sa), .val (.int md), .val (.ref b1), .val (.int (md &&& (3 : Int32))), .unset, .unset] [(.ref b16), (.ref b16)]))) (fun _ kk => XS.dup X16.here hx rfl (hb hby at_34) rfl rfl kk) ?_
    refine go_of (B := (T16.setTop (mkF m 36 #[.val (.int pa), .val (.int fa), .val (.int sa), .val (.int md), .val (.ref b1), .val (.int (md &&& (3 : Int32))), .unset, .unset] [(.int pa), (.ref b16), (.ref b16)]))) (fun _ kk => XS.iloadN X16.here hx rfl (hb hby at_35) rfl kk) ?_
    have cf_17 := (((cf_6.keep K7 all0).keep K14 (allS (by first | omega | exact own_ne (by omega) | exact own_le (by omega) | exact own_lt (by omega)) all0)).ext E16)
    obtain ⟨_, _, ⟨T18, L18, k18, n18⟩, -, X18, ⟨Lc18, hQ18, l18, y18, z18⟩, st18⟩ := Jvm.LawKit.callS X16 hx (y := (⟨"com/example/sure_paths/surepaths/model/ExistentialToClassEqualsPinLaw", "theirs", "(I)Ljava/lang/String;"⟩ : MethodName)) hown (mvT hZ (hw _ (List.mem_of_getElem? (i := 86) rfl))) (mvT hZ (hw _ (List.mem_of_getElem? (i := 87) rfl))) (mvT hZ (hw _ (List.mem_of_getElem? (i := 5) rfl))) (mvT hZ (hw _ (List.mem_of_getElem? (i := 88) rfl))) (by decide) (backOf (W := 2) (rm13 l Z a0 hw [] pa gC h16 n0 (by first | omega | exact own_ne (by omega) | exact own_le (by omega) | exact own_lt (by omega)) cf_17 SC hgC) hZ (hw _ (List.mem_of_getElem? (i := 88) rfl)) (hw _ (List.mem_of_getElem? (i := 5) rfl)) (by decide) (by decide)) (g := (mkF m 36 #[.val (.int pa), .val (.int fa), .val (.int sa), .val (.int md), .val (.ref b1), .val (.int (md &&& (3 : Int32))), .unset, .unset] [(.int pa), (.ref b16), (.ref b16)])) rfl (by rw [hml]; rfl) (argsL := [(.int pa)]) (rest := [(.ref b16), (.ref b16)]) (lenOf pd__I_Ljava_lang_String_ rfl) rfl (by show 2 * 0 + _ ≤ _; exact Nat.le_of_eq rfl) (hb hby at_36) (fun _ _ => ⟨rfl, e16, (by decide : 17 + 3 ≤ _), (by decide : 132 + 8 ≤ _)⟩)
    dsimp only [Pt.U, Pt.locs, Pt.cells, Pt.slots] at X18 l18 y18 z18 st18 hQ18
    subst l18 y18 z18
    obtain ⟨b18, rfl, N18q, lo18, K18, S18⟩ := hQ18
    have lo18 := own_nle lo18
    have N18 := Fr.app N14 N18q
    have hi18 := own_nlt (S18.exa.lt)
    have sz18 := K18.1
    refine go_of (B := (T18.setTop (mkF m 39 #[.val (.int pa), .val (.int fa), .val (.int sa), .val (.int md), .val (.ref b1), .val (.int (md &&& (3 : Int32))), .unset, .unset] [(.ref b18), (.ref b16), (.ref b16)]))) (st18) ?_
    refine go_of (B := (T18.setTop (mkF m 40 #[.val (.int pa), .val (.int fa), .val (.int sa), .val (.int md), .val (.ref b1), .val (.int (md &&& (3 : Int32))), .unset, .unset] [(.int fa), (.ref b18), (.ref b16), (.ref b16)]))) (fun _ kk => XS.iloadN X18.here hx rfl (hb hby at_39) rfl kk) ?_
    have cf_19 := (cf_17.keep K18 all0)
    obtain ⟨_, _, ⟨T20, L20, k20, n20⟩, -, X20, ⟨Lc20, hQ20, l20, y20, z20⟩, st20⟩ := Jvm.LawKit.callS X18 hx (y := (⟨"com/example/sure_paths/surepaths/model/ExistentialToClassEqualsPinLaw", "theirs", "(I)Ljava/lang/String;"⟩ : MethodName)) hown (mvT hZ (hw _ (List.mem_of_getElem? (i := 86) rfl))) (mvT hZ (hw _ (List.mem_of_getElem? (i := 87) rfl))) (mvT hZ (hw _ (List.mem_of_getElem? (i := 5) rfl))) (mvT hZ (hw _ (List.mem_of_getElem? (i := 88) rfl))) (by decide) (backOf (W := 3) (rm13 l Z a0 hw [] fa gC T18.heap n0 (by first | omega | exact own_ne (by omega) | exact own_le (by omega) | exact own_lt (by omega)) cf_19 SC hgC) hZ (hw _ (List.mem_of_getElem? (i := 88) rfl)) (hw _ (List.mem_of_getElem? (i := 5) rfl)) (by decide) (by decide)) (g := (mkF m 40 #[.val (.int pa), .val (.int fa), .val (.int sa), .val (.int md), .val (.ref b1), .val (.int (md &&& (3 : Int32))), .unset, .unset] [(.int fa), (.ref b18), (.ref b16), (.ref b16)])) rfl (by rw [hml]; rfl) (argsL := [(.int fa)]) (rest := [(.ref b18), (.ref b16), (.ref b16)]) (lenOf pd__I_Ljava_lang_String_ rfl) rfl (by show 2 * 0 + _ ≤ _; exact Nat.le_of_eq rfl) (hb hby at_40) (fun _ _ => ⟨rfl, rfl, (by decide : 20 + 3 ≤ _), (by decide : 140 + 8 ≤ _)⟩)
    dsimp only [Pt.U, Pt.locs, Pt.cells, Pt.slots] at X20 l20 y20 z20 st20 hQ20
    subst l20 y20 z20
    obtain ⟨b20, rfl, N20q, lo20, K20, S20⟩ := hQ20
    have lo20 := own_nle lo20
    have N20 := Fr.app N18 N20q
    have hi20 := own_nlt (S20.exa.lt)
    have sz20 := K20.1
    refine go_of (B := (T20.setTop (mkF m 43 #[.val (.int pa), .val (.int fa), .val (.int sa), .val (.int md), .val (.ref b1), .val (.int (md &&& (3 : Int32))), .unset, .unset] [(.ref b20), (.ref b18), (.ref b16), (.ref b16)]))) (st20) ?_
    refine go_of (B := (T20.setTop (mkF m 44 #[.val (.int pa), .val (.int fa), .val (.int sa), .val (.int md), .val (.ref b1), .val (.int (md &&& (3 : Int32))), .unset, .unset] [(.int sa), (.ref b20), (.ref b18), (.ref b16), (.ref b16)]))) (fun _ kk => XS.iloadN X20.here hx rfl (hb hby at_43) rfl kk) ?_
    have cf_21 := (cf_19.keep K20 all0)
    obtain ⟨_, _, ⟨T22, L22, k22, n22⟩, -, X22, ⟨Lc22, hQ22, l22, y22, z22⟩, st22⟩ := Jvm.LawKit.callS X20 hx (y := (⟨"com/example/sure_paths/surepaths/model/ExistentialToClassEqualsPinLaw", "theirs", "(I)Ljava/lang/String;"⟩ : MethodName)) hown (mvT hZ (hw _ (List.mem_of_getElem? (i := 86) rfl))) (mvT hZ (hw _ (List.mem_of_getElem? (i := 87) rfl))) (mvT hZ (hw _ (List.mem_of_getElem? (i := 5) rfl))) (mvT hZ (hw _ (List.mem_of_getElem? (i := 88) rfl))) (by decide) (backOf (W := 4) (rm13 l Z a0 hw [] sa gC T20.heap n0 (by first | omega | exact own_ne (by omega) | exact own_le (by omega) | exact own_lt (by omega)) cf_21 SC hgC) hZ (hw _ (List.mem_of_getElem? (i := 88) rfl)) (hw _ (List.mem_of_getElem? (i := 5) rfl)) (by decide) (by decide)) (g := (mkF m 44 #[.val (.int pa), .val (.int fa), .val (.int sa), .val (.int md), .val (.ref b1), .val (.int (md &&& (3 : Int32))), .unset, .unset] [(.int sa), (.ref b20), (.ref b18), (.ref b16), (.ref b16)])) rfl (by rw [hml]; rfl) (argsL := [(.int sa)]) (rest := [(.ref b20), (.ref b18), (.ref b16), (.ref b16)]) (lenOf pd__I_Ljava_lang_String_ rfl) rfl (by show 2 * 0 + _ ≤ _; exact Nat.le_of_eq rfl) (hb hby at_44) (fun _ _ => ⟨rfl, rfl, (by decide : 23 + 3 ≤ _), (by decide : 148 + 8 ≤ _)⟩)
    dsimp only [Pt.U, Pt.locs, Pt.cells, Pt.slots] at X22 l22 y22 z22 st22 hQ22
    subst l22 y22 z22
    obtain ⟨b22, rfl, N22q, lo22, K22, S22⟩ := hQ22
    have lo22 := own_nle lo22
    have N22 := Fr.app N20 N22q
    have hi22 := own_nlt (S22.exa.lt)
    have sz22 := K22.1
    refine go_of (B := (T22.setTop (mkF m 47 #[.val (.int pa), .val (.int fa), .val (.int sa), .val (.int md), .val (.ref b1), .val (.int (md &&& (3 : Int32))), .unset, .unset] [(.ref b22), (.ref b20), (.ref b18), (.ref b16), (.ref b16)]))) (st22) ?_
    have cf_23 := (((A16.keep K18).keep K20).keep K22)
    have cf_24 := (((F16_property.keep K18 nin0).keep K20 nin0).keep K22 nin0)
    have cf_25 := (((F16_filler.keep K18 nin0).keep K20 nin0).keep K22 nin0)
    have cf_26 := (((F16_superClass.keep K18 nin0).keep K20 nin0).keep K22 nin0)
    have cf_27 := ((S18.exa.keep K20).keep K22)
    have cf_28 := (S20.exa.keep K22)
    obtain ⟨_, _, ⟨T29, L29, k29, n29⟩, -, X29', hS29', gr29, ⟨Lc29, hQ29, l29, y29, z29⟩, st29⟩ := X22.specialBackS hx (y := (⟨"com/example/sure_paths/surepaths/model/ExistentialToClass", "<init>", "(Ljava/lang/String;Ljava/lang/String;Ljava/lang/String;)V"⟩ : MethodName)) rfl hown (mvT hZ (hw _ (List.mem_of_getElem? (i := 40) rfl))) (mvT hZ (hw _ (List.mem_of_getElem? (i := 41) rfl))) (mvT hZ (hw _ (List.mem_of_getElem? (i := 42) rfl))) (by decide) (backOfS (W := 1) (rm9 l Z a0 hw [] b16 b18 b20 b22 _ _ _ T22.heap n0 (by first | omega | exact own_ne (by omega) | exact own_le (by omega) | exact own_lt (by omega)) cf_23 cf_24 cf_25 cf_26 (by first | omega | exact own_ne (by omega) | exact own_le (by omega) | exact own_lt (by omega)) cf_27 cf_28 S22.exa) hZ (hw _ (List.mem_of_getElem? (i := 42) rfl)) (hw _ (List.mem_of_getElem? (i := 2) rfl)) (by decide) (by decide)) (g := (mkF m 47 #[.val (.int pa), .val (.int fa), .val (.int sa), .val (.int md), .val (.ref b1), .val (.int (md &&& (3 : Int32))), .unset, .unset] [(.ref b22), (.ref b20), (.ref b18), (.ref b16), (.ref b16)])) rfl (by rw [hml]; rfl) (Steps.refl _) (a := b16) (argsL := [(.ref b18), (.ref b20), (.ref b22)]) (rest := [(.ref b16)]) (lenOf pd__Ljava_lang_String_Ljava_lang_String_Ljava_lang_String__V rfl) rfl (by show 2 * 0 + _ ≤ _; exact Nat.le_of_eq rfl) (hb hby at_47) (fun _ _ => ⟨rfl, rfl, (by decide : 26 + 6 ≤ _), (by decide : 156 + 108 ≤ _)⟩)
    dsimp only [Pt.U, Pt.locs, Pt.cells, Pt.slots] at X29' hS29' gr29 l29 y29 z29 st29 hQ29
    subst l29 y29 z29
    have X29 : Stand _ _ _ _ (s.setVm T29.vm) _ _ _ _ _ T29 _ _ _ := X29'
    have hS : s.Since T29.vm T29.heap.size := foldS hS (by first | omega | exact own_ne (by omega) | exact own_le (by omega) | exact own_lt (by omega)) hS29' gr29
    have hZ : Z.Warmed39 (s.setVm T29.vm).vm := State.Warmed39.trans (t := s.setVm T14.vm) hZ hS29'.1
    have hown : (s.setVm T29.vm).vm.findClass "com/example/sure_paths/surepaths/model/ExistentialToClassEqualsPinLaw" = some m.cls := by rw [show (s.setVm T29.vm).vm = T29.vm from rfl, hS29'.1.alike.findClass]; exact hown
    obtain ⟨rfl, N29q, K29, A29⟩ := hQ29
    have N29 := Fr.app N22 N29q
    have sz29 := K29.1
    refine go_tr (B := (T29.setTop (mkF m 50 #[.val (.int pa), .val (.int fa), .val (.int sa), .val (.int md), .val (.ref b1), .val (.int (md &&& (3 : Int32))), .unset, .unset] [(.ref b16)]))) (st29) ?_
    refine go_of (B := (T29.setTop (mkF m 52 #[.val (.int pa), .val (.int fa), .val (.int sa), .val (.int md), .val (.ref b1), .val (.int (md &&& (3 : Int32))), .val (.ref b16), .unset] []))) (fun _ kk => XS.astore X29.here hx rfl (hb hby at_50) rfl rfl rfl kk) ?_
    refine go_of (B := (T29.setTop (mkF m 53 #[.val (.int pa), .val (.int fa), .val (.int sa), .val (.int md), .val (.ref b1), .val (.int (md &&& (3 : Int32))), .val (.ref b16), .unset] [(.int pa)]))) (fun _ kk => XS.iloadN X29.here hx rfl (hb hby at_52) rfl kk) ?_
    obtain ⟨_, _, ⟨T30, L30, k30, n30⟩, -, X30, ⟨Lc30, hQ30, l30, y30, z30⟩, st30⟩ := Jvm.LawKit.callS X29 hx (y := (⟨"com/example/sure_paths/surepaths/model/ExistentialToClassEqualsPinLaw", "expectSame", "(I)Z"⟩ : MethodName)) hown (mvT hZ (hw _ (List.mem_of_getElem? (i := 89) rfl))) (mvT hZ (hw _ (List.mem_of_getElem? (i := 90) rfl))) (mvT hZ (hw _ (List.mem_of_getElem? (i := 5) rfl))) (mvT hZ (hw _ (List.mem_of_getElem? (i := 91) rfl))) (by decide) (backOf (W := 0) (rm14 l Z a0 hw [] pa T29.heap n0 (by first | omega | exact own_ne (by omega) | exact own_le (by omega) | exact own_lt (by omega))) hZ (hw _ (List.mem_of_getElem? (i := 91) rfl)) (hw _ (List.mem_of_getElem? (i := 5) rfl)) (by decide) (by decide)) (g := (mkF m 53 #[.val (.int pa), .val (.int fa), .val (.int sa), .val (.int md), .val (.ref b1), .val (.int (md &&& (3 : Int32))), .val (.ref b16), .unset] [(.int pa)])) rfl (by rw [hml]; rfl) (argsL := [(.int pa)]) (rest := []) (lenOf pd__I_Z rfl) rfl (by show 2 * 0 + _ ≤ _; exact Nat.le_of_eq rfl) (hb hby at_53) (fun _ _ => ⟨rfl, rfl, (by decide : 32 + 0 ≤ _), (by decide : 264 + 0 ≤ _)⟩)
    dsimp only [Pt.U, Pt.locs, Pt.cells, Pt.slots] at X30 l30 y30 z30 st30 hQ30
    subst l30 y30 z30
    obtain ⟨rfl, N30q, e30⟩ := hQ30
    have N30 := Fr.app N29 N30q
    refine go_of (B := (T30.setTop (mkF m 56 #[.val (.int pa), .val (.int fa), .val (.int sa), .val (.int md), .val (.ref b1), .val (.int (md &&& (3 : Int32))), .val (.ref b16), .unset] [(.int (own_exp pa))]))) (st30) ?_
    by_cases hc31 : (own_exp pa) = (0 : Int32)
    · refine go_of (B := (T30.setTop (mkF m 77 #[.val (.int pa), .val (.int fa), .val (.int sa), .val (.int md), .val (.ref b1), .val (.int (md &&& (3 : Int32))), .val (.ref b16), .unset] []))) (fun _ kk => XS.ifYes X30.here hx rfl (pc0 := 56) (pc' := 77) rfl (hb hby at_56) rfl ((if0 _ _).trans (teq hc31).1) (by decide) (by decide) kk) ?_
      refine go_of (B := (T30.setTop (mkF m 78 #[.val (.int pa), .val (.int fa), .val (.int sa), .val (.int md), .val (.ref b1), .val (.int (md &&& (3 : Int32))), .val (.ref b16), .unset] [(.int (0 : Int32))]))) (fun _ kk => XS.iconst X30.here hx rfl (hb hby at_77) kk) ?_
      refine go_of (B := (T30.setTop (mkF m 80 #[.val (.int pa), .val (.int fa), .val (.int sa), .val (.int md), .val (.ref b1), .val (.int (md &&& (3 : Int32))), .val (.ref b16), .val (.int (0 : Int32))] []))) (fun _ kk => XS.istore X30.here hx rfl (hb hby at_78) rfl rfl kk) ?_
      refine go_of (B := (T30.setTop (mkF m 82 #[.val (.int pa), .val (.int fa), .val (.int sa), .val (.int md), .val (.ref b1), .val (.int (md &&& (3 : Int32))), .val (.ref b16), .val (.int (0 : Int32))] [(.ref b1)]))) (fun _ kk => XS.aload X30.here hx rfl (hb hby at_80) rfl rfl kk) ?_
      refine go_of (B := (T30.setTop (mkF m 84 #[.val (.int pa), .val (.int fa), .val (.int sa), .val (.int md), .val (.ref b1), .val (.int (md &&& (3 : Int32))), .val (.ref b16), .val (.int (0 : Int32))] [(.ref b16), (.ref b1)]))) (fun _ kk => XS.aload X30.here hx rfl (hb hby at_82) rfl rfl kk) ?_
      have cf_32 := S3.keep (((((((((Keep.refl T3.heap [b1]).trans K5 all0).trans K7 all0).trans K14 (allS (Or.inl (List.mem_of_getElem? (i := 0) rfl)) all0)).ext E16).trans K18 all0).trans K20 all0).trans K22 all0).trans K29 (allS (Or.inr (by first | omega | exact own_ne (by omega) | exact own_le (by omega) | exact own_lt (by omega))) all0)) (allS (by first | omega | exact own_ne (by omega) | exact own_le (by omega) | exact own_lt (by omega)) all0)
      have cf_33 := S5.keep ((((((((Keep.refl T5.heap [b1]).trans K7 all0).trans K14 (allS (Or.inl (List.mem_of_getElem? (i := 0) rfl)) all0)).ext E16).trans K18 all0).trans K20 all0).trans K22 all0).trans K29 (allS (Or.inr (by first | omega | exact own_ne (by omega) | exact own_le (by omega) | exact own_lt (by omega))) all0)) (allS (by first | omega | exact own_ne (by omega) | exact own_le (by omega) | exact own_lt (by omega)) all0)
      have cf_34 := S7.keep (((((((Keep.refl T7.heap [b1]).trans K14 (allS (Or.inl (List.mem_of_getElem? (i := 0) rfl)) all0)).ext E16).trans K18 all0).trans K20 all0).trans K22 all0).trans K29 (allS (Or.inr (by first | omega | exact own_ne (by omega) | exact own_le (by omega) | exact own_lt (by omega))) all0)) (allS (by first | omega | exact own_ne (by omega) | exact own_le (by omega) | exact own_lt (by omega)) all0)
      have cf_35 := S18.keep ((((Keep.refl T18.heap [b16]).trans K20 all0).trans K22 all0).trans K29 (allS (Or.inl (List.mem_of_getElem? (i := 0) rfl)) all0)) (allS (by first | omega | exact own_ne (by omega) | exact own_le (by omega) | exact own_lt (by omega)) all0)
      have cf_36 := S20.keep (((Keep.refl T20.heap [b16]).trans K22 all0).trans K29 (allS (Or.inl (List.mem_of_getElem? (i := 0) rfl)) all0)) (allS (by first | omega | exact own_ne (by omega) | exact own_le (by omega) | exact own_lt (by omega)) all0)
      have cf_37 := S22.keep ((Keep.refl T22.heap [b16]).trans K29 (allS (Or.inl (List.mem_of_getElem? (i := 0) rfl)) all0)) (allS (by first | omega | exact own_ne (by omega) | exact own_le (by omega) | exact own_lt (by omega)) all0)
      have cf_38 := ((cf_21.keep K22 all0).keep K29 (allS (by first | omega | exact own_ne (by omega) | exact own_le (by omega) | exact own_lt (by omega)) all0))
      have cf_39 := (((((A14.1.ext E16).keep K18).keep K20).keep K22).keep K29)
      have cf_40 := (((((A14.2.1.ext E16).keep K18 nin0).keep K20 nin0).keep K22 nin0).keep K29 (ninS (by first | omega | exact own_ne (by omega) | exact own_le (by omega) | exact own_lt (by omega)) nin0))
      have cf_41 := (((((A14.2.2.1.ext E16).keep K18 nin0).keep K20 nin0).keep K22 nin0).keep K29 (ninS (by first | omega | exact own_ne (by omega) | exact own_le (by omega) | exact own_lt (by omega)) nin0))
      have cf_42 := (((((A14.2.2.2.ext E16).keep K18 nin0).keep K20 nin0).keep K22 nin0).keep K29 (ninS (by first | omega | exact own_ne (by omega) | exact own_le (by omega) | exact own_lt (by omega)) nin0))
      obtain ⟨cq43, kq43, q43a, q43b, q43c⟩ := isOf hZ e30 cf_39
      obtain ⟨_, _, ⟨T43, L43, k43, n43⟩, -, X43, ⟨Lc43, hQ43, l43, y43, z43⟩, st43⟩ := X30.virtualBack hx (y := (⟨"com/example/sure_paths/surepaths/model/ExistentialToClass", "equals", "(Ljava/lang/Object;)Z"⟩ : MethodName)) (z := (⟨"com/example/sure_paths/surepaths/model/ExistentialToClass", "equals", "(Ljava/lang/Object;)Z"⟩ : MethodName)) hown (mvT hZ (hw _ (List.mem_of_getElem? (i := 60) rfl))) (mvT hZ (hw _ (List.mem_of_getElem? (i := 61) rfl))) (notFace_of_selects (args := #[]) (mvT hZ (hw _ (List.mem_of_getElem? (i := 63) rfl)))) (mvT hZ (hw _ (List.mem_of_getElem? (i := 63) rfl))) (mvT hZ (hw _ (List.mem_of_getElem? (i := 62) rfl))) (by decide) (backOf (W := 0) (eq_same l Z a0 hw [] b1 b16 b3 b5 b7 b18 b20 b22 [own_ch pa] [own_ch fa] [own_ch sa] (own_th pa) (own_th fa) (own_th sa) gC T29.heap n0 (by first | omega | exact own_ne (by omega) | exact own_le (by omega) | exact own_lt (by omega)) cf_38 SC hgC ⟨cf_39, cf_40, cf_41, cf_42⟩ ⟨A29.1, A29.2.1, A29.2.2.1, A29.2.2.2⟩ cf_32 cf_33 cf_34 cf_35 cf_36 cf_37 (fun q => absurd q (own_ne (by first | omega | exact own_ne (by omega) | exact own_le (by omega) | exact own_lt (by omega)))) (fun q => absurd q (own_ne (by first | omega | exact own_ne (by omega) | exact own_le (by omega) | exact own_lt (by omega)))) (fun q => absurd q (own_ne (by first | omega | exact own_ne (by omega) | exact own_le (by omega) | exact own_lt (by omega))))) hZ (hw _ (List.mem_of_getElem? (i := 64) rfl)) (hw _ (List.mem_of_getElem? (i := 2) rfl)) (by decide) (by decide)) q43a q43c (g := (mkF m 84 #[.val (.int pa), .val (.int fa), .val (.int sa), .val (.int md), .val (.ref b1), .val (.int (md &&& (3 : Int32))), .val (.ref b16), .val (.int (0 : Int32))] [(.ref b16), (.ref b1)])) rfl (by rw [hml]; rfl) (Steps.refl _) (argsL := [(.ref b16)]) (rest := []) (lenOf pd__Ljava_lang_Object__Z rfl) rfl (by show 2 * 0 + _ ≤ _; exact Nat.le_of_eq rfl) (hb hby at_84) (fun _ _ => ⟨rfl, e30, (by decide : 32 + 0 ≤ _), (by decide : 264 + 0 ≤ _)⟩)
      dsimp only [Pt.U, Pt.locs, Pt.cells, Pt.slots] at X43 l43 y43 z43 st43 hQ43
      subst l43 y43 z43
      obtain ⟨rfl, N43q, e43⟩ := hQ43
      have N43 := Fr.app N30 N43q
      refine go_tr (B := (T43.setTop (mkF m 87 #[.val (.int pa), .val (.int fa), .val (.int sa), .val (.int md), .val (.ref b1), .val (.int (md &&& (3 : Int32))), .val (.ref b16), .val (.int (0 : Int32))] [(.int (own_eq3 [own_ch pa] (own_th pa) [own_ch fa] (own_th fa) [own_ch sa] (own_th sa)))]))) (st43) ?_
      refine go_of (B := (T43.setTop (mkF m 89 #[.val (.int pa), .val (.int fa), .val (.int sa), .val (.int md), .val (.ref b1), .val (.int (md &&& (3 : Int32))), .val (.ref b16), .val (.int (0 : Int32))] [(.int (0 : Int32)), (.int (own_eq3 [own_ch pa] (own_th pa) [own_ch fa] (own_th fa) [own_ch sa] (own_th sa)))]))) (fun _ kk => XS.iload X43.here hx rfl (hb hby at_87) rfl kk) ?_
      refine go_of (B := (T43.setTop (mkF m 92 #[.val (.int pa), .val (.int fa), .val (.int sa), .val (.int md), .val (.ref b1), .val (.int (md &&& (3 : Int32))), .val (.ref b16), .val (.int (0 : Int32))] []))) (fun _ kk => XS.icmpNo X43.here hx rfl (hb hby at_89) rfl (teq (by rw [own_fin]; simp [hc31] : (own_eq3 [own_ch pa] (own_th pa) [own_ch fa] (own_th fa) [own_ch sa] (own_th sa)) = (0 : Int32))).2 kk) ?_
      refine go_of (B := (T43.setTop (mkF m 94 #[.val (.int pa), .val (.int fa), .val (.int sa), .val (.int md), .val (.ref b1), .val (.int (md &&& (3 : Int32))), .val (.ref b16), .val (.int (0 : Int32))] [(.ref b16)]))) (fun _ kk => XS.aload X43.here hx rfl (hb hby at_92) rfl rfl kk) ?_
      refine go_of (B := (T43.setTop (mkF m 96 #[.val (.int pa), .val (.int fa), .val (.int sa), .val (.int md), .val (.ref b1), .val (.int (md &&& (3 : Int32))), .val (.ref b16), .val (.int (0 : Int32))] [(.ref b1), (.ref b16)]))) (fun _ kk => XS.aload X43.here hx rfl (hb hby at_94) rfl rfl kk) ?_
      obtain ⟨cq44, kq44, q44a, q44b, q44c⟩ := isOf hZ e43 A29.1
      obtain ⟨_, _, ⟨T44, L44, k44, n44⟩, -, X44, ⟨Lc44, hQ44, l44, y44, z44⟩, st44⟩ := X43.virtualBack hx (y := (⟨"com/example/sure_paths/surepaths/model/ExistentialToClass", "equals", "(Ljava/lang/Object;)Z"⟩ : MethodName)) (z := (⟨"com/example/sure_paths/surepaths/model/ExistentialToClass", "equals", "(Ljava/lang/Object;)Z"⟩ : MethodName)) hown (mvT hZ (hw _ (List.mem_of_getElem? (i := 60) rfl))) (mvT hZ (hw _ (List.mem_of_getElem? (i := 61) rfl))) (notFace_of_selects (args := #[]) (mvT hZ (hw _ (List.mem_of_getElem? (i := 63) rfl)))) (mvT hZ (hw _ (List.mem_of_getElem? (i := 63) rfl))) (mvT hZ (hw _ (List.mem_of_getElem? (i := 62) rfl))) (by decide) (backOf (W := 0) (eq_same l Z a0 hw [] b16 b1 b18 b20 b22 b3 b5 b7 (own_th pa) (own_th fa) (own_th sa) [own_ch pa] [own_ch fa] [own_ch sa] gC T29.heap n0 (by first | omega | exact own_ne (by omega) | exact own_le (by omega) | exact own_lt (by omega)) cf_38 SC hgC ⟨A29.1, A29.2.1, A29.2.2.1, A29.2.2.2⟩ ⟨cf_39, cf_40, cf_41, cf_42⟩ cf_35 cf_36 cf_37 cf_32 cf_33 cf_34 (fun q => absurd q (own_ne (by first | omega | exact own_ne (by omega) | exact own_le (by omega) | exact own_lt (by omega)))) (fun q => absurd q (own_ne (by first | omega | exact own_ne (by omega) | exact own_le (by omega) | exact own_lt (by omega)))) (fun q => absurd q (own_ne (by first | omega | exact own_ne (by omega) | exact own_le (by omega) | exact own_lt (by omega))))) hZ (hw _ (List.mem_of_getElem? (i := 64) rfl)) (hw _ (List.mem_of_getElem? (i := 2) rfl)) (by decide) (by decide)) q44a q44c (g := (mkF m 96 #[.val (.int pa), .val (.int fa), .val (.int sa), .val (.int md), .val (.ref b1), .val (.int (md &&& (3 : Int32))), .val (.ref b16), .val (.int (0 : Int32))] [(.ref b1), (.ref b16)])) rfl (by rw [hml]; rfl) (Steps.refl _) (argsL := [(.ref b1)]) (rest := []) (lenOf pd__Ljava_lang_Object__Z rfl) rfl (by show 2 * 0 + _ ≤ _; exact Nat.le_of_eq rfl) (hb hby at_96) (fun _ _ => ⟨rfl, e43, (by decide : 32 + 0 ≤ _), (by decide : 264 + 0 ≤ _)⟩)
      dsimp only [Pt.U, Pt.locs, Pt.cells, Pt.slots] at X44 l44 y44 z44 st44 hQ44
      subst l44 y44 z44
      obtain ⟨rfl, N44q, e44⟩ := hQ44
      have N44 := Fr.app N43 N44q
      refine go_tr (B := (T44.setTop (mkF m 99 #[.val (.int pa), .val (.int fa), .val (.int sa), .val (.int md), .val (.ref b1), .val (.int (md &&& (3 : Int32))), .val (.ref b16), .val (.int (0 : Int32))] [(.int (own_eq3 (own_th pa) [own_ch pa] (own_th fa) [own_ch fa] (own_th sa) [own_ch sa]))]))) (st44) ?_
      refine go_of (B := (T44.setTop (mkF m 101 #[.val (.int pa), .val (.int fa), .val (.int sa), .val (.int md), .val (.ref b1), .val (.int (md &&& (3 : Int32))), .val (.ref b16), .val (.int (0 : Int32))] [(.int (0 : Int32)), (.int (own_eq3 (own_th pa) [own_ch pa] (own_th fa) [own_ch fa] (own_th sa) [own_ch sa]))]))) (fun _ kk => XS.iload X44.here hx rfl (hb hby at_99) rfl kk) ?_
      refine go_of (B := (T44.setTop (mkF m 104 #[.val (.int pa), .val (.int fa), .val (.int sa), .val (.int md), .val (.ref b1), .val (.int (md &&& (3 : Int32))), .val (.ref b16), .val (.int (0 : Int32))] []))) (fun _ kk => XS.icmpNo X44.here hx rfl (hb hby at_101) rfl (teq (by rw [own_fin']; simp [hc31] : (own_eq3 (own_th pa) [own_ch pa] (own_th fa) [own_ch fa] (own_th sa) [own_ch sa]) = (0 : Int32))).2 kk) ?_
      refine go_of (B := (T44.setTop (mkF m 105 #[.val (.int pa), .val (.int fa), .val (.int sa), .val (.int md), .val (.ref b1), .val (.int (md &&& (3 : Int32))), .val (.ref b16), .val (.int (0 : Int32))] [(.int (1 : Int32))]))) (fun _ kk => XS.iconst X44.here hx rfl (hb hby at_104) kk) ?_
      refine go_of (B := (T44.setTop (mkF m 109 #[.val (.int pa), .val (.int fa), .val (.int sa), .val (.int md), .val (.ref b1), .val (.int (md &&& (3 : Int32))), .val (.ref b16), .val (.int (0 : Int32))] [(.int (1 : Int32))]))) (fun _ kk => XS.goto X44.here hx rfl (pc0 := 105) (pc' := 109) rfl (hb hby at_105) (by decide) (by decide) kk) ?_
      refine go_endW X44 hS (by rw [e44]; omega) (v := some (.int (nar .boolean (1 : Int32)))) (fun h => by rw [Bd.returns] at h; cases h) Bd.notSynchronized (by decide) (by decide) (Q := (Q_rm0 Z pa fa sa md gC h0 n0)) ?_ (fun fs hr => retN X44 hx (t := .boolean) Bd.returns (by simp) (hb hby at_109) hr)
      show (fun (v : Option Value) (h : Heap) (L : List Loc) => v = some (.int 1) ∧ Fr n0 L) (some (.int (nar .boolean (1 : Int32)))) T44.heap _
      rw [e44]
      refine ⟨?_, N44⟩
      first | rfl | simp [own_eq3, nar]
    · refine go_of (B := (T30.setTop (mkF m 59 #[.val (.int pa), .val (.int fa), .val (.int sa), .val (.int md), .val (.ref b1), .val (.int (md &&& (3 : Int32))), .val (.ref b16), .unset] []))) (fun _ kk => XS.ifNo X30.here hx rfl (hb hby at_56) rfl ((if0 _ _).trans (feq hc31).1) kk) ?_
      refine go_of (B := (T30.setTop (mkF m 60 #[.val (.int pa), .val (.int fa), .val (.int sa), .val (.int md), .val (.ref b1), .val (.int (md &&& (3 : Int32))), .val (.ref b16), .unset] [(.int fa)]))) (fun _ kk => XS.iloadN X30.here hx rfl (hb hby at_59) rfl kk) ?_
      obtain ⟨_, _, ⟨T45, L45, k45, n45⟩, -, X45, ⟨Lc45, hQ45, l45, y45, z45⟩, st45⟩ := Jvm.LawKit.callS X30 hx (y := (⟨"com/example/sure_paths/surepaths/model/ExistentialToClassEqualsPinLaw", "expectSame", "(I)Z"⟩ : MethodName)) hown (mvT hZ (hw _ (List.mem_of_getElem? (i := 89) rfl))) (mvT hZ (hw _ (List.mem_of_getElem? (i := 90) rfl))) (mvT hZ (hw _ (List.mem_of_getElem? (i := 5) rfl))) (mvT hZ (hw _ (List.mem_of_getElem? (i := 91) rfl))) (by decide) (backOf (W := 0) (rm14 l Z a0 hw [] fa T29.heap n0 (by first | omega | exact own_ne (by omega) | exact own_le (by omega) | exact own_lt (by omega))) hZ (hw _ (List.mem_of_getElem? (i := 91) rfl)) (hw _ (List.mem_of_getElem? (i := 5) rfl)) (by decide) (by decide)) (g := (mkF m 60 #[.val (.int pa), .val (.int fa), .val (.int sa), .val (.int md), .val (.ref b1), .val (.int (md &&& (3 : Int32))), .val (.ref b16), .unset] [(.int fa)])) rfl (by rw [hml]; rfl) (argsL := [(.int fa)]) (rest := []) (lenOf pd__I_Z rfl) rfl (by show 2 * 0 + _ ≤ _; exact Nat.le_of_eq rfl) (hb hby at_60) (fun _ _ => ⟨rfl, e30, (by decide : 32 + 0 ≤ _), (by decide : 264 + 0 ≤ _)⟩)
      dsimp only [Pt.U, Pt.locs, Pt.cells, Pt.slots] at X45 l45 y45 z45 st45 hQ45
      subst l45 y45 z45
      obtain ⟨rfl, N45q, e45⟩ := hQ45
      have N45 := Fr.app N30 N45q
      refine go_of (B := (T45.setTop (mkF m 63 #[.val (.int pa), .val (.int fa), .val (.int sa), .val (.int md), .val (.ref b1), .val (.int (md &&& (3 : Int32))), .val (.ref b16), .unset] [(.int (own_exp fa))]))) (st45) ?_
      by_cases hc46 : (own_exp fa) = (0 : Int32)
      · refine go_of (B := (T45.setTop (mkF m 77 #[.val (.int pa), .val (.int fa), .val (.int sa), .val (.int md), .val (.ref b1), .val (.int (md &&& (3 : Int32))), .val (.ref b16), .unset] []))) (fun _ kk => XS.ifYes X45.here hx rfl (pc0 := 63) (pc' := 77) rfl (hb hby at_63) rfl ((if0 _ _).trans (teq hc46).1) (by decide) (by decide) kk) ?_
        refine go_of (B := (T45.setTop (mkF m 78 #[.val (.int pa), .val (.int fa), .val (.int sa), .val (.int md), .val (.ref b1), .val (.int (md &&& (3 : Int32))), .val (.ref b16), .unset] [(.int (0 : Int32))]))) (fun _ kk => XS.iconst X45.here hx rfl (hb hby at_77) kk) ?_
        refine go_of (B := (T45.setTop (mkF m 80 #[.val (.int pa), .val (.int fa), .val (.int sa), .val (.int md), .val (.ref b1), .val (.int (md &&& (3 : Int32))), .val (.ref b16), .val (.int (0 : Int32))] []))) (fun _ kk => XS.istore X45.here hx rfl (hb hby at_78) rfl rfl kk) ?_
        refine go_of (B := (T45.setTop (mkF m 82 #[.val (.int pa), .val (.int fa), .val (.int sa), .val (.int md), .val (.ref b1), .val (.int (md &&& (3 : Int32))), .val (.ref b16), .val (.int (0 : Int32))] [(.ref b1)]))) (fun _ kk => XS.aload X45.here hx rfl (hb hby at_80) rfl rfl kk) ?_
        refine go_of (B := (T45.setTop (mkF m 84 #[.val (.int pa), .val (.int fa), .val (.int sa), .val (.int md), .val (.ref b1), .val (.int (md &&& (3 : Int32))), .val (.ref b16), .val (.int (0 : Int32))] [(.ref b16), (.ref b1)]))) (fun _ kk => XS.aload X45.here hx rfl (hb hby at_82) rfl rfl kk) ?_
        have cf_47 := S3.keep (((((((((Keep.refl T3.heap [b1]).trans K5 all0).trans K7 all0).trans K14 (allS (Or.inl (List.mem_of_getElem? (i := 0) rfl)) all0)).ext E16).trans K18 all0).trans K20 all0).trans K22 all0).trans K29 (allS (Or.inr (by first | omega | exact own_ne (by omega) | exact own_le (by omega) | exact own_lt (by omega))) all0)) (allS (by first | omega | exact own_ne (by omega) | exact own_le (by omega) | exact own_lt (by omega)) all0)
        have cf_48 := S5.keep ((((((((Keep.refl T5.heap [b1]).trans K7 all0).trans K14 (allS (Or.inl (List.mem_of_getElem? (i := 0) rfl)) all0)).ext E16).trans K18 all0).trans K20 all0).trans K22 all0).trans K29 (allS (Or.inr (by first | omega | exact own_ne (by omega) | exact own_le (by omega) | exact own_lt (by omega))) all0)) (allS (by first | omega | exact own_ne (by omega) | exact own_le (by omega) | exact own_lt (by omega)) all0)
        have cf_49 := S7.keep (((((((Keep.refl T7.heap [b1]).trans K14 (allS (Or.inl (List.mem_of_getElem? (i := 0) rfl)) all0)).ext E16).trans K18 all0).trans K20 all0).trans K22 all0).trans K29 (allS (Or.inr (by first | omega | exact own_ne (by omega) | exact own_le (by omega) | exact own_lt (by omega))) all0)) (allS (by first | omega | exact own_ne (by omega) | exact own_le (by omega) | exact own_lt (by omega)) all0)
        have cf_50 := S18.keep ((((Keep.refl T18.heap [b16]).trans K20 all0).trans K22 all0).trans K29 (allS (Or.inl (List.mem_of_getElem? (i := 0) rfl)) all0)) (allS (by first | omega | exact own_ne (by omega) | exact own_le (by omega) | exact own_lt (by omega)) all0)
        have cf_51 := S20.keep (((Keep.refl T20.heap [b16]).trans K22 all0).trans K29 (allS (Or.inl (List.mem_of_getElem? (i := 0) rfl)) all0)) (allS (by first | omega | exact own_ne (by omega) | exact own_le (by omega) | exact own_lt (by omega)) all0)
        have cf_52 := S22.keep ((Keep.refl T22.heap [b16]).trans K29 (allS (Or.inl (List.mem_of_getElem? (i := 0) rfl)) all0)) (allS (by first | omega | exact own_ne (by omega) | exact own_le (by omega) | exact own_lt (by omega)) all0)
        have cf_53 := ((cf_21.keep K22 all0).keep K29 (allS (by first | omega | exact own_ne (by omega) | exact own_le (by omega) | exact own_lt (by omega)) all0))
        have cf_54 := (((((A14.1.ext E16).keep K18).keep K20).keep K22).keep K29)
        have cf_55 := (((((A14.2.1.ext E16).keep K18 nin0).keep K20 nin0).keep K22 nin0).keep K29 (ninS (by first | omega | exact own_ne (by omega) | exact own_le (by omega) | exact own_lt (by omega)) nin0))
        have cf_56 := (((((A14.2.2.1.ext E16).keep K18 nin0).keep K20 nin0).keep K22 nin0).keep K29 (ninS (by first | omega | exact own_ne (by omega) | exact own_le (by omega) | exact own_lt (by omega)) nin0))
        have cf_57 := (((((A14.2.2.2.ext E16).keep K18 nin0).keep K20 nin0).keep K22 nin0).keep K29 (ninS (by first | omega | exact own_ne (by omega) | exact own_le (by omega) | exact own_lt (by omega)) nin0))
        obtain ⟨cq58, kq58, q58a, q58b, q58c⟩ := isOf hZ e45 cf_54
        obtain ⟨_, _, ⟨T58, L58, k58, n58⟩, -, X58, ⟨Lc58, hQ58, l58, y58, z58⟩, st58⟩ := X45.virtualBack hx (y := (⟨"com/example/sure_paths/surepaths/model/ExistentialToClass", "equals", "(Ljava/lang/Object;)Z"⟩ : MethodName)) (z := (⟨"com/example/sure_paths/surepaths/model/ExistentialToClass", "equals", "(Ljava/lang/Object;)Z"⟩ : MethodName)) hown (mvT hZ (hw _ (List.mem_of_getElem? (i := 60) rfl))) (mvT hZ (hw _ (List.mem_of_getElem? (i := 61) rfl))) (notFace_of_selects (args := #[]) (mvT hZ (hw _ (List.mem_of_getElem? (i := 63) rfl)))) (mvT hZ (hw _ (List.mem_of_getElem? (i := 63) rfl))) (mvT hZ (hw _ (List.mem_of_getElem? (i := 62) rfl))) (by decide) (backOf (W := 0) (eq_same l Z a0 hw [] b1 b16 b3 b5 b7 b18 b20 b22 [own_ch pa] [own_ch fa] [own_ch sa] (own_th pa) (own_th fa) (own_th sa) gC T29.heap n0 (by first | omega | exact own_ne (by omega) | exact own_le (by omega) | exact own_lt (by omega)) cf_53 SC hgC ⟨cf_54, cf_55, cf_56, cf_57⟩ ⟨A29.1, A29.2.1, A29.2.2.1, A29.2.2.2⟩ cf_47 cf_48 cf_49 cf_50 cf_51 cf_52 (fun q => absurd q (own_ne (by first | omega | exact own_ne (by omega) | exact own_le (by omega) | exact own_lt (by omega)))) (fun q => absurd q (own_ne (by first | omega | exact own_ne (by omega) | exact own_le (by omega) | exact own_lt (by omega)))) (fun q => absurd q (own_ne (by first | omega | exact own_ne (by omega) | exact own_le (by omega) | exact own_lt (by omega))))) hZ (hw _ (List.mem_of_getElem? (i := 64) rfl)) (hw _ (List.mem_of_getElem? (i := 2) rfl)) (by decide) (by decide)) q58a q58c (g := (mkF m 84 #[.val (.int pa), .val (.int fa), .val (.int sa), .val (.int md), .val (.ref b1), .val (.int (md &&& (3 : Int32))), .val (.ref b16), .val (.int (0 : Int32))] [(.ref b16), (.ref b1)])) rfl (by rw [hml]; rfl) (Steps.refl _) (argsL := [(.ref b16)]) (rest := []) (lenOf pd__Ljava_lang_Object__Z rfl) rfl (by show 2 * 0 + _ ≤ _; exact Nat.le_of_eq rfl) (hb hby at_84) (fun _ _ => ⟨rfl, e45, (by decide : 32 + 0 ≤ _), (by decide : 264 + 0 ≤ _)⟩)
        dsimp only [Pt.U, Pt.locs, Pt.cells, Pt.slots] at X58 l58 y58 z58 st58 hQ58
        subst l58 y58 z58
        obtain ⟨rfl, N58q, e58⟩ := hQ58
        have N58 := Fr.app N45 N58q
        refine go_tr (B := (T58.setTop (mkF m 87 #[.val (.int pa), .val (.int fa), .val (.int sa), .val (.int md), .val (.ref b1), .val (.int (md &&& (3 : Int32))), .val (.ref b16), .val (.int (0 : Int32))] [(.int (own_eq3 [own_ch pa] (own_th pa) [own_ch fa] (own_th fa) [own_ch sa] (own_th sa)))]))) (st58) ?_
        refine go_of (B := (T58.setTop (mkF m 89 #[.val (.int pa), .val (.int fa), .val (.int sa), .val (.int md), .val (.ref b1), .val (.int (md &&& (3 : Int32))), .val (.ref b16), .val (.int (0 : Int32))] [(.int (0 : Int32)), (.int (own_eq3 [own_ch pa] (own_th pa) [own_ch fa] (own_th fa) [own_ch sa] (own_th sa)))]))) (fun _ kk => XS.iload X58.here hx rfl (hb hby at_87) rfl kk) ?_
        refine go_of (B := (T58.setTop (mkF m 92 #[.val (.int pa), .val (.int fa), .val (.int sa), .val (.int md), .val (.ref b1), .val (.int (md &&& (3 : Int32))), .val (.ref b16), .val (.int (0 : Int32))] []))) (fun _ kk => XS.icmpNo X58.here hx rfl (hb hby at_89) rfl (teq (by rw [own_fin]; simp [hc31, hc46] : (own_eq3 [own_ch pa] (own_th pa) [own_ch fa] (own_th fa) [own_ch sa] (own_th sa)) = (0 : Int32))).2 kk) ?_
        refine go_of (B := (T58.setTop (mkF m 94 #[.val (.int pa), .val (.int fa), .val (.int sa), .val (.int md), .val (.ref b1), .val (.int (md &&& (3 : Int32))), .val (.ref b16), .val (.int (0 : Int32))] [(.ref b16)]))) (fun _ kk => XS.aload X58.here hx rfl (hb hby at_92) rfl rfl kk) ?_
        refine go_of (B := (T58.setTop (mkF m 96 #[.val (.int pa), .val (.int fa), .val (.int sa), .val (.int md), .val (.ref b1), .val (.int (md &&& (3 : Int32))), .val (.ref b16), .val (.int (0 : Int32))] [(.ref b1), (.ref b16)]))) (fun _ kk => XS.aload X58.here hx rfl (hb hby at_94) rfl rfl kk) ?_
        obtain ⟨cq59, kq59, q59a, q59b, q59c⟩ := isOf hZ e58 A29.1
        obtain ⟨_, _, ⟨T59, L59, k59, n59⟩, -, X59, ⟨Lc59, hQ59, l59, y59, z59⟩, st59⟩ := X58.virtualBack hx (y := (⟨"com/example/sure_paths/surepaths/model/ExistentialToClass", "equals", "(Ljava/lang/Object;)Z"⟩ : MethodName)) (z := (⟨"com/example/sure_paths/surepaths/model/ExistentialToClass", "equals", "(Ljava/lang/Object;)Z"⟩ : MethodName)) hown (mvT hZ (hw _ (List.mem_of_getElem? (i := 60) rfl))) (mvT hZ (hw _ (List.mem_of_getElem? (i := 61) rfl))) (notFace_of_selects (args := #[]) (mvT hZ (hw _ (List.mem_of_getElem? (i := 63) rfl)))) (mvT hZ (hw _ (List.mem_of_getElem? (i := 63) rfl))) (mvT hZ (hw _ (List.mem_of_getElem? (i := 62) rfl))) (by decide) (backOf (W := 0) (eq_same l Z a0 hw [] b16 b1 b18 b20 b22 b3 b5 b7 (own_th pa) (own_th fa) (own_th sa) [own_ch pa] [own_ch fa] [own_ch sa] gC T29.heap n0 (by first | omega | exact own_ne (by omega) | exact own_le (by omega) | exact own_lt (by omega)) cf_53 SC hgC ⟨A29.1, A29.2.1, A29.2.2.1, A29.2.2.2⟩ ⟨cf_54, cf_55, cf_56, cf_57⟩ cf_50 cf_51 cf_52 cf_47 cf_48 cf_49 (fun q => absurd q (own_ne (by first | omega | exact own_ne (by omega) | exact own_le (by omega) | exact own_lt (by omega)))) (fun q => absurd q (own_ne (by first | omega | exact own_ne (by omega) | exact own_le (by omega) | exact own_lt (by omega)))) (fun q => absurd q (own_ne (by first | omega | exact own_ne (by omega) | exact own_le (by omega) | exact own_lt (by omega))))) hZ (hw _ (List.mem_of_getElem? (i := 64) rfl)) (hw _ (List.mem_of_getElem? (i := 2) rfl)) (by decide) (by decide)) q59a q59c (g := (mkF m 96 #[.val (.int pa), .val (.int fa), .val (.int sa), .val (.int md), .val (.ref b1), .val (.int (md &&& (3 : Int32))), .val (.ref b16), .val (.int (0 : Int32))] [(.ref b1), (.ref b16)])) rfl (by rw [hml]; rfl) (Steps.refl _) (argsL := [(.ref b1)]) (rest := []) (lenOf pd__Ljava_lang_Object__Z rfl) rfl (by show 2 * 0 + _ ≤ _; exact Nat.le_of_eq rfl) (hb hby at_96) (fun _ _ => ⟨rfl, e58, (by decide : 32 + 0 ≤ _), (by decide : 264 + 0 ≤ _)⟩)
        dsimp only [Pt.U, Pt.locs, Pt.cells, Pt.slots] at X59 l59 y59 z59 st59 hQ59
        subst l59 y59 z59
        obtain ⟨rfl, N59q, e59⟩ := hQ59
        have N59 := Fr.app N58 N59q
        refine go_tr (B := (T59.setTop (mkF m 99 #[.val (.int pa), .val (.int fa), .val (.int sa), .val (.int md), .val (.ref b1), .val (.int (md &&& (3 : Int32))), .val (.ref b16), .val (.int (0 : Int32))] [(.int (own_eq3 (own_th pa) [own_ch pa] (own_th fa) [own_ch fa] (own_th sa) [own_ch sa]))]))) (st59) ?_
        refine go_of (B := (T59.setTop (mkF m 101 #[.val (.int pa), .val (.int fa), .val (.int sa), .val (.int md), .val (.ref b1), .val (.int (md &&& (3 : Int32))), .val (.ref b16), .val (.int (0 : Int32))] [(.int (0 : Int32)), (.int (own_eq3 (own_th pa) [own_ch pa] (own_th fa) [own_ch fa] (own_th sa) [own_ch sa]))]))) (fun _ kk => XS.iload X59.here hx rfl (hb hby at_99) rfl kk) ?_
        refine go_of (B := (T59.setTop (mkF m 104 #[.val (.int pa), .val (.int fa), .val (.int sa), .val (.int md), .val (.ref b1), .val (.int (md &&& (3 : Int32))), .val (.ref b16), .val (.int (0 : Int32))] []))) (fun _ kk => XS.icmpNo X59.here hx rfl (hb hby at_101) rfl (teq (by rw [own_fin']; simp [hc31, hc46] : (own_eq3 (own_th pa) [own_ch pa] (own_th fa) [own_ch fa] (own_th sa) [own_ch sa]) = (0 : Int32))).2 kk) ?_
        refine go_of (B := (T59.setTop (mkF m 105 #[.val (.int pa), .val (.int fa), .val (.int sa), .val (.int md), .val (.ref b1), .val (.int (md &&& (3 : Int32))), .val (.ref b16), .val (.int (0 : Int32))] [(.int (1 : Int32))]))) (fun _ kk => XS.iconst X59.here hx rfl (hb hby at_104) kk) ?_
        refine go_of (B := (T59.setTop (mkF m 109 #[.val (.int pa), .val (.int fa), .val (.int sa), .val (.int md), .val (.ref b1), .val (.int (md &&& (3 : Int32))), .val (.ref b16), .val (.int (0 : Int32))] [(.int (1 : Int32))]))) (fun _ kk => XS.goto X59.here hx rfl (pc0 := 105) (pc' := 109) rfl (hb hby at_105) (by decide) (by decide) kk) ?_
        refine go_endW X59 hS (by rw [e59]; omega) (v := some (.int (nar .boolean (1 : Int32)))) (fun h => by rw [Bd.returns] at h; cases h) Bd.notSynchronized (by decide) (by decide) (Q := (Q_rm0 Z pa fa sa md gC h0 n0)) ?_ (fun fs hr => retN X59 hx (t := .boolean) Bd.returns (by simp) (hb hby at_109) hr)
        show (fun (v : Option Value) (h : Heap) (L : List Loc) => v = some (.int 1) ∧ Fr n0 L) (some (.int (nar .boolean (1 : Int32)))) T59.heap _
        rw [e59]
        refine ⟨?_, N59⟩
        first | rfl | simp [own_eq3, nar]
      · refine go_of (B := (T45.setTop (mkF m 66 #[.val (.int pa), .val (.int fa), .val (.int sa), .val (.int md), .val (.ref b1), .val (.int (md &&& (3 : Int32))), .val (.ref b16), .unset] []))) (fun _ kk => XS.ifNo X45.here hx rfl (hb hby at_63) rfl ((if0 _ _).trans (feq hc46).1) kk) ?_
        refine go_of (B := (T45.setTop (mkF m 67 #[.val (.int pa), .val (.int fa), .val (.int sa), .val (.int md), .val (.ref b1), .val (.int (md &&& (3 : Int32))), .val (.ref b16), .unset] [(.int sa)]))) (fun _ kk => XS.iloadN X45.here hx rfl (hb hby at_66) rfl kk) ?_
        obtain ⟨_, _, ⟨T60, L60, k60, n60⟩, -, X60, ⟨Lc60, hQ60, l60, y60, z60⟩, st60⟩ := Jvm.LawKit.callS X45 hx (y := (⟨"com/example/sure_paths/surepaths/model/ExistentialToClassEqualsPinLaw", "expectSame", "(I)Z"⟩ : MethodName)) hown (mvT hZ (hw _ (List.mem_of_getElem? (i := 89) rfl))) (mvT hZ (hw _ (List.mem_of_getElem? (i := 90) rfl))) (mvT hZ (hw _ (List.mem_of_getElem? (i := 5) rfl))) (mvT hZ (hw _ (List.mem_of_getElem? (i := 91) rfl))) (by decide) (backOf (W := 0) (rm14 l Z a0 hw [] sa T29.heap n0 (by first | omega | exact own_ne (by omega) | exact own_le (by omega) | exact own_lt (by omega))) hZ (hw _ (List.mem_of_getElem? (i := 91) rfl)) (hw _ (List.mem_of_getElem? (i := 5) rfl)) (by decide) (by decide)) (g := (mkF m 67 #[.val (.int pa), .val (.int fa), .val (.int sa), .val (.int md), .val (.ref b1), .val (.int (md &&& (3 : Int32))), .val (.ref b16), .unset] [(.int sa)])) rfl (by rw [hml]; rfl) (argsL := [(.int sa)]) (rest := []) (lenOf pd__I_Z rfl) rfl (by show 2 * 0 + _ ≤ _; exact Nat.le_of_eq rfl) (hb hby at_67) (fun _ _ => ⟨rfl, e45, (by decide : 32 + 0 ≤ _), (by decide : 264 + 0 ≤ _)⟩)
        dsimp only [Pt.U, Pt.locs, Pt.cells, Pt.slots] at X60 l60 y60 z60 st60 hQ60
        subst l60 y60 z60
        obtain ⟨rfl, N60q, e60⟩ := hQ60
        have N60 := Fr.app N45 N60q
        refine go_of (B := (T60.setTop (mkF m 70 #[.val (.int pa), .val (.int fa), .val (.int sa), .val (.int md), .val (.ref b1), .val (.int (md &&& (3 : Int32))), .val (.ref b16), .unset] [(.int (own_exp sa))]))) (st60) ?_
        by_cases hc61 : (own_exp sa) = (0 : Int32)
        · refine go_of (B := (T60.setTop (mkF m 77 #[.val (.int pa), .val (.int fa), .val (.int sa), .val (.int md), .val (.ref b1), .val (.int (md &&& (3 : Int32))), .val (.ref b16), .unset] []))) (fun _ kk => XS.ifYes X60.here hx rfl (pc0 := 70) (pc' := 77) rfl (hb hby at_70) rfl ((if0 _ _).trans (teq hc61).1) (by decide) (by decide) kk) ?_
          refine go_of (B := (T60.setTop (mkF m 78 #[.val (.int pa), .val (.int fa), .val (.int sa), .val (.int md), .val (.ref b1), .val (.int (md &&& (3 : Int32))), .val (.ref b16), .unset] [(.int (0 : Int32))]))) (fun _ kk => XS.iconst X60.here hx rfl (hb hby at_77) kk) ?_
          refine go_of (B := (T60.setTop (mkF m 80 #[.val (.int pa), .val (.int fa), .val (.int sa), .val (.int md), .val (.ref b1), .val (.int (md &&& (3 : Int32))), .val (.ref b16), .val (.int (0 : Int32))] []))) (fun _ kk => XS.istore X60.here hx rfl (hb hby at_78) rfl rfl kk) ?_
          refine go_of (B := (T60.setTop (mkF m 82 #[.val (.int pa), .val (.int fa), .val (.int sa), .val (.int md), .val (.ref b1), .val (.int (md &&& (3 : Int32))), .val (.ref b16), .val (.int (0 : Int32))] [(.ref b1)]))) (fun _ kk => XS.aload X60.here hx rfl (hb hby at_80) rfl rfl kk) ?_
          refine go_of (B := (T60.setTop (mkF m 84 #[.val (.int pa), .val (.int fa), .val (.int sa), .val (.int md), .val (.ref b1), .val (.int (md &&& (3 : Int32))), .val (.ref b16), .val (.int (0 : Int32))] [(.ref b16), (.ref b1)]))) (fun _ kk => XS.aload X60.here hx rfl (hb hby at_82) rfl rfl kk) ?_
          have cf_62 := S3.keep (((((((((Keep.refl T3.heap [b1]).trans K5 all0).trans K7 all0).trans K14 (allS (Or.inl (List.mem_of_getElem? (i := 0) rfl)) all0)).ext E16).trans K18 all0).trans K20 all0).trans K22 all0).trans K29 (allS (Or.inr (by first | omega | exact own_ne (by omega) | exact own_le (by omega) | exact own_lt (by omega))) all0)) (allS (by first | omega | exact own_ne (by omega) | exact own_le (by omega) | exact own_lt (by omega)) all0)
          have cf_63 := S5.keep ((((((((Keep.refl T5.heap [b1]).trans K7 all0).trans K14 (allS (Or.inl (List.mem_of_getElem? (i := 0) rfl)) all0)).ext E16).trans K18 all0).trans K20 all0).trans K22 all0).trans K29 (allS (Or.inr (by first | omega | exact own_ne (by omega) | exact own_le (by omega) | exact own_lt (by omega))) all0)) (allS (by first | omega | exact own_ne (by omega) | exact own_le (by omega) | exact own_lt (by omega)) all0)
          have cf_64 := S7.keep (((((((Keep.refl T7.heap [b1]).trans K14 (allS (Or.inl (List.mem_of_getElem? (i := 0) rfl)) all0)).ext E16).trans K18 all0).trans K20 all0).trans K22 all0).trans K29 (allS (Or.inr (by first | omega | exact own_ne (by omega) | exact own_le (by omega) | exact own_lt (by omega))) all0)) (allS (by first | omega | exact own_ne (by omega) | exact own_le (by omega) | exact own_lt (by omega)) all0)
          have cf_65 := S18.keep ((((Keep.refl T18.heap [b16]).trans K20 all0).trans K22 all0).trans K29 (allS (Or.inl (List.mem_of_getElem? (i := 0) rfl)) all0)) (allS (by first | omega | exact own_ne (by omega) | exact own_le (by omega) | exact own_lt (by omega)) all0)
          have cf_66 := S20.keep (((Keep.refl T20.heap [b16]).trans K22 all0).trans K29 (allS (Or.inl (List.mem_of_getElem? (i := 0) rfl)) all0)) (allS (by first | omega | exact own_ne (by omega) | exact own_le (by omega) | exact own_lt (by omega)) all0)
          have cf_67 := S22.keep ((Keep.refl T22.heap [b16]).trans K29 (allS (Or.inl (List.mem_of_getElem? (i := 0) rfl)) all0)) (allS (by first | omega | exact own_ne (by omega) | exact own_le (by omega) | exact own_lt (by omega)) all0)
          have cf_68 := ((cf_21.keep K22 all0).keep K29 (allS (by first | omega | exact own_ne (by omega) | exact own_le (by omega) | exact own_lt (by omega)) all0))
          have cf_69 := (((((A14.1.ext E16).keep K18).keep K20).keep K22).keep K29)
          have cf_70 := (((((A14.2.1.ext E16).keep K18 nin0).keep K20 nin0).keep K22 nin0).keep K29 (ninS (by first | omega | exact own_ne (by omega) | exact own_le (by omega) | exact own_lt (by omega)) nin0))
          have cf_71 := (((((A14.2.2.1.ext E16).keep K18 nin0).keep K20 nin0).keep K22 nin0).keep K29 (ninS (by first | omega | exact own_ne (by omega) | exact own_le (by omega) | exact own_lt (by omega)) nin0))
          have cf_72 := (((((A14.2.2.2.ext E16).keep K18 nin0).keep K20 nin0).keep K22 nin0).keep K29 (ninS (by first | omega | exact own_ne (by omega) | exact own_le (by omega) | exact own_lt (by omega)) nin0))
          obtain ⟨cq73, kq73, q73a, q73b, q73c⟩ := isOf hZ e60 cf_69
          obtain ⟨_, _, ⟨T73, L73, k73, n73⟩, -, X73, ⟨Lc73, hQ73, l73, y73, z73⟩, st73⟩ := X60.virtualBack hx (y := (⟨"com/example/sure_paths/surepaths/model/ExistentialToClass", "equals", "(Ljava/lang/Object;)Z"⟩ : MethodName)) (z := (⟨"com/example/sure_paths/surepaths/model/ExistentialToClass", "equals", "(Ljava/lang/Object;)Z"⟩ : MethodName)) hown (mvT hZ (hw _ (List.mem_of_getElem? (i := 60) rfl))) (mvT hZ (hw _ (List.mem_of_getElem? (i := 61) rfl))) (notFace_of_selects (args := #[]) (mvT hZ (hw _ (List.mem_of_getElem? (i := 63) rfl)))) (mvT hZ (hw _ (List.mem_of_getElem? (i := 63) rfl))) (mvT hZ (hw _ (List.mem_of_getElem? (i := 62) rfl))) (by decide) (backOf (W := 0) (eq_same l Z a0 hw [] b1 b16 b3 b5 b7 b18 b20 b22 [own_ch pa] [own_ch fa] [own_ch sa] (own_th pa) (own_th fa) (own_th sa) gC T29.heap n0 (by first | omega | exact own_ne (by omega) | exact own_le (by omega) | exact own_lt (by omega)) cf_68 SC hgC ⟨cf_69, cf_70, cf_71, cf_72⟩ ⟨A29.1, A29.2.1, A29.2.2.1, A29.2.2.2⟩ cf_62 cf_63 cf_64 cf_65 cf_66 cf_67 (fun q => absurd q (own_ne (by first | omega | exact own_ne (by omega) | exact own_le (by omega) | exact own_lt (by omega)))) (fun q => absurd q (own_ne (by first | omega | exact own_ne (by omega) | exact own_le (by omega) | exact own_lt (by omega)))) (fun q => absurd q (own_ne (by first | omega | exact own_ne (by omega) | exact own_le (by omega) | exact own_lt (by omega))))) hZ (hw _ (List.mem_of_getElem? (i := 64) rfl)) (hw _ (List.mem_of_getElem? (i := 2) rfl)) (by decide) (by decide)) q73a q73c (g := (mkF m 84 #[.val (.int pa), .val (.int fa), .val (.int sa), .val (.int md), .val (.ref b1), .val (.int (md &&& (3 : Int32))), .val (.ref b16), .val (.int (0 : Int32))] [(.ref b16), (.ref b1)])) rfl (by rw [hml]; rfl) (Steps.refl _) (argsL := [(.ref b16)]) (rest := []) (lenOf pd__Ljava_lang_Object__Z rfl) rfl (by show 2 * 0 + _ ≤ _; exact Nat.le_of_eq rfl) (hb hby at_84) (fun _ _ => ⟨rfl, e60, (by decide : 32 + 0 ≤ _), (by decide : 264 + 0 ≤ _)⟩)
          dsimp only [Pt.U, Pt.locs, Pt.cells, Pt.slots] at X73 l73 y73 z73 st73 hQ73
          subst l73 y73 z73
          obtain ⟨rfl, N73q, e73⟩ := hQ73
          have N73 := Fr.app N60 N73q
          refine go_tr (B := (T73.setTop (mkF m 87 #[.val (.int pa), .val (.int fa), .val (.int sa), .val (.int md), .val (.ref b1), .val (.int (md &&& (3 : Int32))), .val (.ref b16), .val (.int (0 : Int32))] [(.int (own_eq3 [own_ch pa] (own_th pa) [own_ch fa] (own_th fa) [own_ch sa] (own_th sa)))]))) (st73) ?_
          refine go_of (B := (T73.setTop (mkF m 89 #[.val (.int pa), .val (.int fa), .val (.int sa), .val (.int md), .val (.ref b1), .val (.int (md &&& (3 : Int32))), .val (.ref b16), .val (.int (0 : Int32))] [(.int (0 : Int32)), (.int (own_eq3 [own_ch pa] (own_th pa) [own_ch fa] (own_th fa) [own_ch sa] (own_th sa)))]))) (fun _ kk => XS.iload X73.here hx rfl (hb hby at_87) rfl kk) ?_
          refine go_of (B := (T73.setTop (mkF m 92 #[.val (.int pa), .val (.int fa), .val (.int sa), .val (.int md), .val (.ref b1), .val (.int (md &&& (3 : Int32))), .val (.ref b16), .val (.int (0 : Int32))] []))) (fun _ kk => XS.icmpNo X73.here hx rfl (hb hby at_89) rfl (teq (by rw [own_fin]; simp [hc31, hc46, hc61] : (own_eq3 [own_ch pa] (own_th pa) [own_ch fa] (own_th fa) [own_ch sa] (own_th sa)) = (0 : Int32))).2 kk) ?_
          refine go_of (B := (T73.setTop (mkF m 94 #[.val (.int pa), .val (.int fa), .val (.int sa), .val (.int md), .val (.ref b1), .val (.int (md &&& (3 : Int32))), .val (.ref b16), .val (.int (0 : Int32))] [(.ref b16)]))) (fun _ kk => XS.aload X73.here hx rfl (hb hby at_92) rfl rfl kk) ?_
          refine go_of (B := (T73.setTop (mkF m 96 #[.val (.int pa), .val (.int fa), .val (.int sa), .val (.int md), .val (.ref b1), .val (.int (md &&& (3 : Int32))), .val (.ref b16), .val (.int (0 : Int32))] [(.ref b1), (.ref b16)]))) (fun _ kk => XS.aload X73.here hx rfl (hb hby at_94) rfl rfl kk) ?_
          obtain ⟨cq74, kq74, q74a, q74b, q74c⟩ := isOf hZ e73 A29.1
          obtain ⟨_, _, ⟨T74, L74, k74, n74⟩, -, X74, ⟨Lc74, hQ74, l74, y74, z74⟩, st74⟩ := X73.virtualBack hx (y := (⟨"com/example/sure_paths/surepaths/model/ExistentialToClass", "equals", "(Ljava/lang/Object;)Z"⟩ : MethodName)) (z := (⟨"com/example/sure_paths/surepaths/model/ExistentialToClass", "equals", "(Ljava/lang/Object;)Z"⟩ : MethodName)) hown (mvT hZ (hw _ (List.mem_of_getElem? (i := 60) rfl))) (mvT hZ (hw _ (List.mem_of_getElem? (i := 61) rfl))) (notFace_of_selects (args := #[]) (mvT hZ (hw _ (List.mem_of_getElem? (i := 63) rfl)))) (mvT hZ (hw _ (List.mem_of_getElem? (i := 63) rfl))) (mvT hZ (hw _ (List.mem_of_getElem? (i := 62) rfl))) (by decide) (backOf (W := 0) (eq_same l Z a0 hw [] b16 b1 b18 b20 b22 b3 b5 b7 (own_th pa) (own_th fa) (own_th sa) [own_ch pa] [own_ch fa] [own_ch sa] gC T29.heap n0 (by first | omega | exact own_ne (by omega) | exact own_le (by omega) | exact own_lt (by omega)) cf_68 SC hgC ⟨A29.1, A29.2.1, A29.2.2.1, A29.2.2.2⟩ ⟨cf_69, cf_70, cf_71, cf_72⟩ cf_65 cf_66 cf_67 cf_62 cf_63 cf_64 (fun q => absurd q (own_ne (by first | omega | exact own_ne (by omega) | exact own_le (by omega) | exact own_lt (by omega)))) (fun q => absurd q (own_ne (by first | omega | exact own_ne (by omega) | exact own_le (by omega) | exact own_lt (by omega)))) (fun q => absurd q (own_ne (by first | omega | exact own_ne (by omega) | exact own_le (by omega) | exact own_lt (by omega))))) hZ (hw _ (List.mem_of_getElem? (i := 64) rfl)) (hw _ (List.mem_of_getElem? (i := 2) rfl)) (by decide) (by decide)) q74a q74c (g := (mkF m 96 #[.val (.int pa), .val (.int fa), .val (.int sa), .val (.int md), .val (.ref b1), .val (.int (md &&& (3 : Int32))), .val (.ref b16), .val (.int (0 : Int32))] [(.ref b1), (.ref b16)])) rfl (by rw [hml]; rfl) (Steps.refl _) (argsL := [(.ref b1)]) (rest := []) (lenOf pd__Ljava_lang_Object__Z rfl) rfl (by show 2 * 0 + _ ≤ _; exact Nat.le_of_eq rfl) (hb hby at_96) (fun _ _ => ⟨rfl, e73, (by decide : 32 + 0 ≤ _), (by decide : 264 + 0 ≤ _)⟩)
          dsimp only [Pt.U, Pt.locs, Pt.cells, Pt.slots] at X74 l74 y74 z74 st74 hQ74
          subst l74 y74 z74
          obtain ⟨rfl, N74q, e74⟩ := hQ74
          have N74 := Fr.app N73 N74q
          refine go_tr (B := (T74.setTop (mkF m 99 #[.val (.int pa), .val (.int fa), .val (.int sa), .val (.int md), .val (.ref b1), .val (.int (md &&& (3 : Int32))), .val (.ref b16), .val (.int (0 : Int32))] [(.int (own_eq3 (own_th pa) [own_ch pa] (own_th fa) [own_ch fa] (own_th sa) [own_ch sa]))]))) (st74) ?_
          refine go_of (B := (T74.setTop (mkF m 101 #[.val (.int pa), .val (.int fa), .val (.int sa), .val (.int md), .val (.ref b1), .val (.int (md &&& (3 : Int32))), .val (.ref b16), .val (.int (0 : Int32))] [(.int (0 : Int32)), (.int (own_eq3 (own_th pa) [own_ch pa] (own_th fa) [own_ch fa] (own_th sa) [own_ch sa]))]))) (fun _ kk => XS.iload X74.here hx rfl (hb hby at_99) rfl kk) ?_
          refine go_of (B := (T74.setTop (mkF m 104 #[.val (.int pa), .val (.int fa), .val (.int sa), .val (.int md), .val (.ref b1), .val (.int (md &&& (3 : Int32))), .val (.ref b16), .val (.int (0 : Int32))] []))) (fun _ kk => XS.icmpNo X74.here hx rfl (hb hby at_101) rfl (teq (by rw [own_fin']; simp [hc31, hc46, hc61] : (own_eq3 (own_th pa) [own_ch pa] (own_th fa) [own_ch fa] (own_th sa) [own_ch sa]) = (0 : Int32))).2 kk) ?_
          refine go_of (B := (T74.setTop (mkF m 105 #[.val (.int pa), .val (.int fa), .val (.int sa), .val (.int md), .val (.ref b1), .val (.int (md &&& (3 : Int32))), .val (.ref b16), .val (.int (0 : Int32))] [(.int (1 : Int32))]))) (fun _ kk => XS.iconst X74.here hx rfl (hb hby at_104) kk) ?_
          refine go_of (B := (T74.setTop (mkF m 109 #[.val (.int pa), .val (.int fa), .val (.int sa), .val (.int md), .val (.ref b1), .val (.int (md &&& (3 : Int32))), .val (.ref b16), .val (.int (0 : Int32))] [(.int (1 : Int32))]))) (fun _ kk => XS.goto X74.here hx rfl (pc0 := 105) (pc' := 109) rfl (hb hby at_105) (by decide) (by decide) kk) ?_
          refine go_endW X74 hS (by rw [e74]; omega) (v := some (.int (nar .boolean (1 : Int32)))) (fun h => by rw [Bd.returns] at h; cases h) Bd.notSynchronized (by decide) (by decide) (Q := (Q_rm0 Z pa fa sa md gC h0 n0)) ?_ (fun fs hr => retN X74 hx (t := .boolean) Bd.returns (by simp) (hb hby at_109) hr)
          show (fun (v : Option Value) (h : Heap) (L : List Loc) => v = some (.int 1) ∧ Fr n0 L) (some (.int (nar .boolean (1 : Int32)))) T74.heap _
          rw [e74]
          refine ⟨?_, N74⟩
          first | rfl | simp [own_eq3, nar]
        · refine go_of (B := (T60.setTop (mkF m 73 #[.val (.int pa), .val (.int fa), .val (.int sa), .val (.int md), .val (.ref b1), .val (.int (md &&& (3 : Int32))), .val (.ref b16), .unset] []))) (fun _ kk => XS.ifNo X60.here hx rfl (hb hby at_70) rfl ((if0 _ _).trans (feq hc61).1) kk) ?_
          refine go_of (B := (T60.setTop (mkF m 74 #[.val (.int pa), .val (.int fa), .val (.int sa), .val (.int md), .val (.ref b1), .val (.int (md &&& (3 : Int32))), .val (.ref b16), .unset] [(.int (1 : Int32))]))) (fun _ kk => XS.iconst X60.here hx rfl (hb hby at_73) kk) ?_
          refine go_of (B := (T60.setTop (mkF m 78 #[.val (.int pa), .val (.int fa), .val (.int sa), .val (.int md), .val (.ref b1), .val (.int (md &&& (3 : Int32))), .val (.ref b16), .unset] [(.int (1 : Int32))]))) (fun _ kk => XS.goto X60.here hx rfl (pc0 := 74) (pc' := 78) rfl (hb hby at_74) (by decide) (by decide) kk) ?_
          refine go_of (B := (T60.setTop (mkF m 80 #[.val (.int pa), .val (.int fa), .val (.int sa), .val (.int md), .val (.ref b1), .val (.int (md &&& (3 : Int32))), .val (.ref b16), .val (.int (1 : Int32))] []))) (fun _ kk => XS.istore X60.here hx rfl (hb hby at_78) rfl rfl kk) ?_
          refine go_of (B := (T60.setTop (mkF m 82 #[.val (.int pa), .val (.int fa), .val (.int sa), .val (.int md), .val (.ref b1), .val (.int (md &&& (3 : Int32))), .val (.ref b16), .val (.int (1 : Int32))] [(.ref b1)]))) (fun _ kk => XS.aload X60.here hx rfl (hb hby at_80) rfl rfl kk) ?_
          refine go_of (B := (T60.setTop (mkF m 84 #[.val (.int pa), .val (.int fa), .val (.int sa), .val (.int md), .val (.ref b1), .val (.int (md &&& (3 : Int32))), .val (.ref b16), .val (.int (1 : Int32))] [(.ref b16), (.ref b1)]))) (fun _ kk => XS.aload X60.here hx rfl (hb hby at_82) rfl rfl kk) ?_
          have cf_75 := S3.keep (((((((((Keep.refl T3.heap [b1]).trans K5 all0).trans K7 all0).trans K14 (allS (Or.inl (List.mem_of_getElem? (i := 0) rfl)) all0)).ext E16).trans K18 all0).trans K20 all0).trans K22 all0).trans K29 (allS (Or.inr (by first | omega | exact own_ne (by omega) | exact own_le (by omega) | exact own_lt (by omega))) all0)) (allS (by first | omega | exact own_ne (by omega) | exact own_le (by omega) | exact own_lt (by omega)) all0)
          have cf_76 := S5.keep ((((((((Keep.refl T5.heap [b1]).trans K7 all0).trans K14 (allS (Or.inl (List.mem_of_getElem? (i := 0) rfl)) all0)).ext E16).trans K18 all0).trans K20 all0).trans K22 all0).trans K29 (allS (Or.inr (by first | omega | exact own_ne (by omega) | exact own_le (by omega) | exact own_lt (by omega))) all0)) (allS (by first | omega | exact own_ne (by omega) | exact own_le (by omega) | exact own_lt (by omega)) all0)
          have cf_77 := S7.keep (((((((Keep.refl T7.heap [b1]).trans K14 (allS (Or.inl (List.mem_of_getElem? (i := 0) rfl)) all0)).ext E16).trans K18 all0).trans K20 all0).trans K22 all0).trans K29 (allS (Or.inr (by first | omega | exact own_ne (by omega) | exact own_le (by omega) | exact own_lt (by omega))) all0)) (allS (by first | omega | exact own_ne (by omega) | exact own_le (by omega) | exact own_lt (by omega)) all0)
          have cf_78 := S18.keep ((((Keep.refl T18.heap [b16]).trans K20 all0).trans K22 all0).trans K29 (allS (Or.inl (List.mem_of_getElem? (i := 0) rfl)) all0)) (allS (by first | omega | exact own_ne (by omega) | exact own_le (by omega) | exact own_lt (by omega)) all0)
          have cf_79 := S20.keep (((Keep.refl T20.heap [b16]).trans K22 all0).trans K29 (allS (Or.inl (List.mem_of_getElem? (i := 0) rfl)) all0)) (allS (by first | omega | exact own_ne (by omega) | exact own_le (by omega) | exact own_lt (by omega)) all0)
          have cf_80 := S22.keep ((Keep.refl T22.heap [b16]).trans K29 (allS (Or.inl (List.mem_of_getElem? (i := 0) rfl)) all0)) (allS (by first | omega | exact own_ne (by omega) | exact own_le (by omega) | exact own_lt (by omega)) all0)
          have cf_81 := ((cf_21.keep K22 all0).keep K29 (allS (by first | omega | exact own_ne (by omega) | exact own_le (by omega) | exact own_lt (by omega)) all0))
          have cf_82 := (((((A14.1.ext E16).keep K18).keep K20).keep K22).keep K29)
          have cf_83 := (((((A14.2.1.ext E16).keep K18 nin0).keep K20 nin0).keep K22 nin0).keep K29 (ninS (by first | omega | exact own_ne (by omega) | exact own_le (by omega) | exact own_lt (by omega)) nin0))
          have cf_84 := (((((A14.2.2.1.ext E16).keep K18 nin0).keep K20 nin0).keep K22 nin0).keep K29 (ninS (by first | omega | exact own_ne (by omega) | exact own_le (by omega) | exact own_lt (by omega)) nin0))
          have cf_85 := (((((A14.2.2.2.ext E16).keep K18 nin0).keep K20 nin0).keep K22 nin0).keep K29 (ninS (by first | omega | exact own_ne (by omega) | exact own_le (by omega) | exact own_lt (by omega)) nin0))
          obtain ⟨cq86, kq86, q86a, q86b, q86c⟩ := isOf hZ e60 cf_82
          obtain ⟨_, _, ⟨T86, L86, k86, n86⟩, -, X86, ⟨Lc86, hQ86, l86, y86, z86⟩, st86⟩ := X60.virtualBack hx (y := (⟨"com/example/sure_paths/surepaths/model/ExistentialToClass", "equals", "(Ljava/lang/Object;)Z"⟩ : MethodName)) (z := (⟨"com/example/sure_paths/surepaths/model/ExistentialToClass", "equals", "(Ljava/lang/Object;)Z"⟩ : MethodName)) hown (mvT hZ (hw _ (List.mem_of_getElem? (i := 60) rfl))) (mvT hZ (hw _ (List.mem_of_getElem? (i := 61) rfl))) (notFace_of_selects (args := #[]) (mvT hZ (hw _ (List.mem_of_getElem? (i := 63) rfl)))) (mvT hZ (hw _ (List.mem_of_getElem? (i := 63) rfl))) (mvT hZ (hw _ (List.mem_of_getElem? (i := 62) rfl))) (by decide) (backOf (W := 0) (eq_same l Z a0 hw [] b1 b16 b3 b5 b7 b18 b20 b22 [own_ch pa] [own_ch fa] [own_ch sa] (own_th pa) (own_th fa) (own_th sa) gC T29.heap n0 (by first | omega | exact own_ne (by omega) | exact own_le (by omega) | exact own_lt (by omega)) cf_81 SC hgC ⟨cf_82, cf_83, cf_84, cf_85⟩ ⟨A29.1, A29.2.1, A29.2.2.1, A29.2.2.2⟩ cf_75 cf_76 cf_77 cf_78 cf_79 cf_80 (fun q => absurd q (own_ne (by first | omega | exact own_ne (by omega) | exact own_le (by omega) | exact own_lt (by omega)))) (fun q => absurd q (own_ne (by first | omega | exact own_ne (by omega) | exact own_le (by omega) | exact own_lt (by omega)))) (fun q => absurd q (own_ne (by first | omega | exact own_ne (by omega) | exact own_le (by omega) | exact own_lt (by omega))))) hZ (hw _ (List.mem_of_getElem? (i := 64) rfl)) (hw _ (List.mem_of_getElem? (i := 2) rfl)) (by decide) (by decide)) q86a q86c (g := (mkF m 84 #[.val (.int pa), .val (.int fa), .val (.int sa), .val (.int md), .val (.ref b1), .val (.int (md &&& (3 : Int32))), .val (.ref b16), .val (.int (1 : Int32))] [(.ref b16), (.ref b1)])) rfl (by rw [hml]; rfl) (Steps.refl _) (argsL := [(.ref b16)]) (rest := []) (lenOf pd__Ljava_lang_Object__Z rfl) rfl (by show 2 * 0 + _ ≤ _; exact Nat.le_of_eq rfl) (hb hby at_84) (fun _ _ => ⟨rfl, e60, (by decide : 32 + 0 ≤ _), (by decide : 264 + 0 ≤ _)⟩)
          dsimp only [Pt.U, Pt.locs, Pt.cells, Pt.slots] at X86 l86 y86 z86 st86 hQ86
          subst l86 y86 z86
          obtain ⟨rfl, N86q, e86⟩ := hQ86
          have N86 := Fr.app N60 N86q
          refine go_tr (B := (T86.setTop (mkF m 87 #[.val (.int pa), .val (.int fa), .val (.int sa), .val (.int md), .val (.ref b1), .val (.int (md &&& (3 : Int32))), .val (.ref b16), .val (.int (1 : Int32))] [(.int (own_eq3 [own_ch pa] (own_th pa) [own_ch fa] (own_th fa) [own_ch sa] (own_th sa)))]))) (st86) ?_
          refine go_of (B := (T86.setTop (mkF m 89 #[.val (.int pa), .val (.int fa), .val (.int sa), .val (.int md), .val (.ref b1), .val (.int (md &&& (3 : Int32))), .val (.ref b16), .val (.int (1 : Int32))] [(.int (1 : Int32)), (.int (own_eq3 [own_ch pa] (own_th pa) [own_ch fa] (own_th fa) [own_ch sa] (own_th sa)))]))) (fun _ kk => XS.iload X86.here hx rfl (hb hby at_87) rfl kk) ?_
          refine go_of (B := (T86.setTop (mkF m 92 #[.val (.int pa), .val (.int fa), .val (.int sa), .val (.int md), .val (.ref b1), .val (.int (md &&& (3 : Int32))), .val (.ref b16), .val (.int (1 : Int32))] []))) (fun _ kk => XS.icmpNo X86.here hx rfl (hb hby at_89) rfl (teq (by rw [own_fin]; simp [hc31, hc46, hc61] : (own_eq3 [own_ch pa] (own_th pa) [own_ch fa] (own_th fa) [own_ch sa] (own_th sa)) = (1 : Int32))).2 kk) ?_
          refine go_of (B := (T86.setTop (mkF m 94 #[.val (.int pa), .val (.int fa), .val (.int sa), .val (.int md), .val (.ref b1), .val (.int (md &&& (3 : Int32))), .val (.ref b16), .val (.int (1 : Int32))] [(.ref b16)]))) (fun _ kk => XS.aload X86.here hx rfl (hb hby at_92) rfl rfl kk) ?_
          refine go_of (B := (T86.setTop (mkF m 96 #[.val (.int pa), .val (.int fa), .val (.int sa), .val (.int md), .val (.ref b1), .val (.int (md &&& (3 : Int32))), .val (.ref b16), .val (.int (1 : Int32))] [(.ref b1), (.ref b16)]))) (fun _ kk => XS.aload X86.here hx rfl (hb hby at_94) rfl rfl kk) ?_
          obtain ⟨cq87, kq87, q87a, q87b, q87c⟩ := isOf hZ e86 A29.1
          obtain ⟨_, _, ⟨T87, L87, k87, n87⟩, -, X87, ⟨Lc87, hQ87, l87, y87, z87⟩, st87⟩ := X86.virtualBack hx (y := (⟨"com/example/sure_paths/surepaths/model/ExistentialToClass", "equals", "(Ljava/lang/Object;)Z"⟩ : MethodName)) (z := (⟨"com/example/sure_paths/surepaths/model/ExistentialToClass", "equals", "(Ljava/lang/Object;)Z"⟩ : MethodName)) hown (mvT hZ (hw _ (List.mem_of_getElem? (i := 60) rfl))) (mvT hZ (hw _ (List.mem_of_getElem? (i := 61) rfl))) (notFace_of_selects (args := #[]) (mvT hZ (hw _ (List.mem_of_getElem? (i := 63) rfl)))) (mvT hZ (hw _ (List.mem_of_getElem? (i := 63) rfl))) (mvT hZ (hw _ (List.mem_of_getElem? (i := 62) rfl))) (by decide) (backOf (W := 0) (eq_same l Z a0 hw [] b16 b1 b18 b20 b22 b3 b5 b7 (own_th pa) (own_th fa) (own_th sa) [own_ch pa] [own_ch fa] [own_ch sa] gC T29.heap n0 (by first | omega | exact own_ne (by omega) | exact own_le (by omega) | exact own_lt (by omega)) cf_81 SC hgC ⟨A29.1, A29.2.1, A29.2.2.1, A29.2.2.2⟩ ⟨cf_82, cf_83, cf_84, cf_85⟩ cf_78 cf_79 cf_80 cf_75 cf_76 cf_77 (fun q => absurd q (own_ne (by first | omega | exact own_ne (by omega) | exact own_le (by omega) | exact own_lt (by omega)))) (fun q => absurd q (own_ne (by first | omega | exact own_ne (by omega) | exact own_le (by omega) | exact own_lt (by omega)))) (fun q => absurd q (own_ne (by first | omega | exact own_ne (by omega) | exact own_le (by omega) | exact own_lt (by omega))))) hZ (hw _ (List.mem_of_getElem? (i := 64) rfl)) (hw _ (List.mem_of_getElem? (i := 2) rfl)) (by decide) (by decide)) q87a q87c (g := (mkF m 96 #[.val (.int pa), .val (.int fa), .val (.int sa), .val (.int md), .val (.ref b1), .val (.int (md &&& (3 : Int32))), .val (.ref b16), .val (.int (1 : Int32))] [(.ref b1), (.ref b16)])) rfl (by rw [hml]; rfl) (Steps.refl _) (argsL := [(.ref b1)]) (rest := []) (lenOf pd__Ljava_lang_Object__Z rfl) rfl (by show 2 * 0 + _ ≤ _; exact Nat.le_of_eq rfl) (hb hby at_96) (fun _ _ => ⟨rfl, e86, (by decide : 32 + 0 ≤ _), (by decide : 264 + 0 ≤ _)⟩)
          dsimp only [Pt.U, Pt.locs, Pt.cells, Pt.slots] at X87 l87 y87 z87 st87 hQ87
          subst l87 y87 z87
          obtain ⟨rfl, N87q, e87⟩ := hQ87
          have N87 := Fr.app N86 N87q
          refine go_tr (B := (T87.setTop (mkF m 99 #[.val (.int pa), .val (.int fa), .val (.int sa), .val (.int md), .val (.ref b1), .val (.int (md &&& (3 : Int32))), .val (.ref b16), .val (.int (1 : Int32))] [(.int (own_eq3 (own_th pa) [own_ch pa] (own_th fa) [own_ch fa] (own_th sa) [own_ch sa]))]))) (st87) ?_
          refine go_of (B := (T87.setTop (mkF m 101 #[.val (.int pa), .val (.int fa), .val (.int sa), .val (.int md), .val (.ref b1), .val (.int (md &&& (3 : Int32))), .val (.ref b16), .val (.int (1 : Int32))] [(.int (1 : Int32)), (.int (own_eq3 (own_th pa) [own_ch pa] (own_th fa) [own_ch fa] (own_th sa) [own_ch sa]))]))) (fun _ kk => XS.iload X87.here hx rfl (hb hby at_99) rfl kk) ?_
          refine go_of (B := (T87.setTop (mkF m 104 #[.val (.int pa), .val (.int fa), .val (.int sa), .val (.int md), .val (.ref b1), .val (.int (md &&& (3 : Int32))), .val (.ref b16), .val (.int (1 : Int32))] []))) (fun _ kk => XS.icmpNo X87.here hx rfl (hb hby at_101) rfl (teq (by rw [own_fin']; simp [hc31, hc46, hc61] : (own_eq3 (own_th pa) [own_ch pa] (own_th fa) [own_ch fa] (own_th sa) [own_ch sa]) = (1 : Int32))).2 kk) ?_
          refine go_of (B := (T87.setTop (mkF m 105 #[.val (.int pa), .val (.int fa), .val (.int sa), .val (.int md), .val (.ref b1), .val (.int (md &&& (3 : Int32))), .val (.ref b16), .val (.int (1 : Int32))] [(.int (1 : Int32))]))) (fun _ kk => XS.iconst X87.here hx rfl (hb hby at_104) kk) ?_
          refine go_of (B := (T87.setTop (mkF m 109 #[.val (.int pa), .val (.int fa), .val (.int sa), .val (.int md), .val (.ref b1), .val (.int (md &&& (3 : Int32))), .val (.ref b16), .val (.int (1 : Int32))] [(.int (1 : Int32))]))) (fun _ kk => XS.goto X87.here hx rfl (pc0 := 105) (pc' := 109) rfl (hb hby at_105) (by decide) (by decide) kk) ?_
          refine go_endW X87 hS (by rw [e87]; omega) (v := some (.int (nar .boolean (1 : Int32)))) (fun h => by rw [Bd.returns] at h; cases h) Bd.notSynchronized (by decide) (by decide) (Q := (Q_rm0 Z pa fa sa md gC h0 n0)) ?_ (fun fs hr => retN X87 hx (t := .boolean) Bd.returns (by simp) (hb hby at_109) hr)
          show (fun (v : Option Value) (h : Heap) (L : List Loc) => v = some (.int 1) ∧ Fr n0 L) (some (.int (nar .boolean (1 : Int32)))) T87.heap _
          rw [e87]
          refine ⟨?_, N87⟩
          first | rfl | simp [own_eq3, nar]
  · refine go_of (B := (T14.setTop (mkF m 110 #[.val (.int pa), .val (.int fa), .val (.int sa), .val (.int md), .val (.ref b1), .val (.int (md &&& (3 : Int32))), .unset, .unset] []))) (fun _ kk => XS.ifYes X14.here hx rfl (pc0 := 28) (pc' := 110) rfl (hb hby at_28) rfl ((if0 _ _).trans (feq hc15).2) (by decide) (by decide) kk) ?_
    refine go_of (B := (T14.setTop (mkF m 112 #[.val (.int pa), .val (.int fa), .val (.int sa), .val (.int md), .val (.ref b1), .val (.int (md &&& (3 : Int32))), .unset, .unset] [(.int (md &&& (3 : Int32)))]))) (fun _ kk => XS.iload X14.here hx rfl (hb hby at_110) rfl kk) ?_
    refine go_of (B := (T14.setTop (mkF m 113 #[.val (.int pa), .val (.int fa), .val (.int sa), .val (.int md), .val (.ref b1), .val (.int (md &&& (3 : Int32))), .unset, .unset] [(.int (1 : Int32)), (.int (md &&& (3 : Int32)))]))) (fun _ kk => XS.iconst X14.here hx rfl (hb hby at_112) kk) ?_
    by_cases hc88 : (md &&& (3 : Int32)) = (1 : Int32)
    · refine go_of (B := (T14.setTop (mkF m 116 #[.val (.int pa), .val (.int fa), .val (.int sa), .val (.int md), .val (.ref b1), .val (.int (md &&& (3 : Int32))), .unset, .unset] []))) (fun _ kk => XS.icmpNo X14.here hx rfl (hb hby at_113) rfl (teq hc88).2 kk) ?_
      refine go_of (B := (T14.setTop (mkF m 118 #[.val (.int pa), .val (.int fa), .val (.int sa), .val (.int md), .val (.ref b1), .val (.int (md &&& (3 : Int32))), .unset, .unset] [(.ref b1)]))) (fun _ kk => XS.aload X14.here hx rfl (hb hby at_116) rfl rfl kk) ?_
      refine go_of (B := (T14.setTop (mkF m 119 #[.val (.int pa), .val (.int fa), .val (.int sa), .val (.int md), .val (.ref b1), .val (.int (md &&& (3 : Int32))), .unset, .unset] [.null, (.ref b1)]))) (fun _ kk => XS.aconstNull X14.here hx rfl (hb hby at_118) kk) ?_
      obtain ⟨cq89, kq89, q89a, q89b, q89c⟩ := isOf hZ rfl A14.1
      obtain ⟨_, _, ⟨T89, L89, k89, n89⟩, -, X89, ⟨Lc89, hQ89, l89, y89, z89⟩, st89⟩ := X14.virtualBack hx (y := (⟨"com/example/sure_paths/surepaths/model/ExistentialToClass", "equals", "(Ljava/lang/Object;)Z"⟩ : MethodName)) (z := (⟨"com/example/sure_paths/surepaths/model/ExistentialToClass", "equals", "(Ljava/lang/Object;)Z"⟩ : MethodName)) hown (mvT hZ (hw _ (List.mem_of_getElem? (i := 60) rfl))) (mvT hZ (hw _ (List.mem_of_getElem? (i := 61) rfl))) (notFace_of_selects (args := #[]) (mvT hZ (hw _ (List.mem_of_getElem? (i := 63) rfl)))) (mvT hZ (hw _ (List.mem_of_getElem? (i := 63) rfl))) (mvT hZ (hw _ (List.mem_of_getElem? (i := 62) rfl))) (by decide) (backOf (W := 0) (eq_null l Z a0 hw [] b1 T14.heap n0 (by first | omega | exact own_ne (by omega) | exact own_le (by omega) | exact own_lt (by omega))) hZ (hw _ (List.mem_of_getElem? (i := 64) rfl)) (hw _ (List.mem_of_getElem? (i := 2) rfl)) (by decide) (by decide)) q89a q89c (g := (mkF m 119 #[.val (.int pa), .val (.int fa), .val (.int sa), .val (.int md), .val (.ref b1), .val (.int (md &&& (3 : Int32))), .unset, .unset] [.null, (.ref b1)])) rfl (by rw [hml]; rfl) (Steps.refl _) (argsL := [.null]) (rest := []) (lenOf pd__Ljava_lang_Object__Z rfl) rfl (by show 2 * 0 + _ ≤ _; exact Nat.le_of_eq rfl) (hb hby at_119) (fun _ _ => ⟨rfl, rfl, (by decide : 16 + 0 ≤ _), (by decide : 129 + 0 ≤ _)⟩)
      dsimp only [Pt.U, Pt.locs, Pt.cells, Pt.slots] at X89 l89 y89 z89 st89 hQ89
      subst l89 y89 z89
      obtain ⟨rfl, N89q, e89⟩ := hQ89
      have N89 := Fr.app N14 N89q
      refine go_tr (B := (T89.setTop (mkF m 122 #[.val (.int pa), .val (.int fa), .val (.int sa), .val (.int md), .val (.ref b1), .val (.int (md &&& (3 : Int32))), .unset, .unset] [(.int (0 : Int32))]))) (st89) ?_
      refine go_of (B := (T89.setTop (mkF m 125 #[.val (.int pa), .val (.int fa), .val (.int sa), .val (.int md), .val (.ref b1), .val (.int (md &&& (3 : Int32))), .unset, .unset] []))) (fun _ kk => XS.ifNo X89.here hx rfl (hb hby at_122) rfl ((if0 _ _).trans (teq (by decide : (0 : Int32) = (0 : Int32))).2) kk) ?_
      refine go_of (B := (T89.setTop (mkF m 126 #[.val (.int pa), .val (.int fa), .val (.int sa), .val (.int md), .val (.ref b1), .val (.int (md &&& (3 : Int32))), .unset, .unset] [(.int (1 : Int32))]))) (fun _ kk => XS.iconst X89.here hx rfl (hb hby at_125) kk) ?_
      refine go_of (B := (T89.setTop (mkF m 130 #[.val (.int pa), .val (.int fa), .val (.int sa), .val (.int md), .val (.ref b1), .val (.int (md &&& (3 : Int32))), .unset, .unset] [(.int (1 : Int32))]))) (fun _ kk => XS.goto X89.here hx rfl (pc0 := 126) (pc' := 130) rfl (hb hby at_126) (by decide) (by decide) kk) ?_
      refine go_endW X89 hS (by rw [e89]; omega) (v := some (.int (nar .boolean (1 : Int32)))) (fun h => by rw [Bd.returns] at h; cases h) Bd.notSynchronized (by decide) (by decide) (Q := (Q_rm0 Z pa fa sa md gC h0 n0)) ?_ (fun fs hr => retN X89 hx (t := .boolean) Bd.returns (by simp) (hb hby at_130) hr)
      show (fun (v : Option Value) (h : Heap) (L : List Loc) => v = some (.int 1) ∧ Fr n0 L) (some (.int (nar .boolean (1 : Int32)))) T89.heap _
      rw [e89]
      refine ⟨?_, N89⟩
      first | rfl | simp [own_eq3, nar]
    · refine go_of (B := (T14.setTop (mkF m 131 #[.val (.int pa), .val (.int fa), .val (.int sa), .val (.int md), .val (.ref b1), .val (.int (md &&& (3 : Int32))), .unset, .unset] []))) (fun _ kk => XS.icmpYes X14.here hx rfl (pc0 := 113) (pc' := 131) rfl (hb hby at_113) rfl (feq hc88).2 (by decide) (by decide) kk) ?_
      refine go_of (B := (T14.setTop (mkF m 133 #[.val (.int pa), .val (.int fa), .val (.int sa), .val (.int md), .val (.ref b1), .val (.int (md &&& (3 : Int32))), .unset, .unset] [(.int (md &&& (3 : Int32)))]))) (fun _ kk => XS.iload X14.here hx rfl (hb hby at_131) rfl kk) ?_
      refine go_of (B := (T14.setTop (mkF m 134 #[.val (.int pa), .val (.int fa), .val (.int sa), .val (.int md), .val (.ref b1), .val (.int (md &&& (3 : Int32))), .unset, .unset] [(.int (2 : Int32)), (.int (md &&& (3 : Int32)))]))) (fun _ kk => XS.iconst X14.here hx rfl (hb hby at_133) kk) ?_
      by_cases hc90 : (md &&& (3 : Int32)) = (2 : Int32)
      · refine go_of (B := (T14.setTop (mkF m 137 #[.val (.int pa), .val (.int fa), .val (.int sa), .val (.int md), .val (.ref b1), .val (.int (md &&& (3 : Int32))), .unset, .unset] []))) (fun _ kk => XS.icmpNo X14.here hx rfl (hb hby at_134) rfl (teq hc90).2 kk) ?_
        obtain ⟨T91, h91, X91, e91, E91, A91, D91, -, st91⟩ := newO X14 hx hZ hown (hw _ (List.mem_of_getElem? (i := 65) rfl)) (hw _ (List.mem_of_getElem? (i := 66) rfl)) (hw _ (List.mem_of_getElem? (i := 67) rfl)) rfl (g := (mkF m 137 #[.val (.int pa), .val (.int fa), .val (.int sa), .val (.int md), .val (.ref b1), .val (.int (md &&& (3 : Int32))), .unset, .unset] [])) rfl (hb hby at_137) (by decide) (by decide)
        obtain ⟨b91, g91⟩ : ∃ z, z = T14.heap.size := ⟨_, rfl⟩
        rw [← g91] at A91 D91 st91
        have hi91 := own_nlt A91.lt
        have sz91 := E91.1
        have F91_subClass : Fld Z h91 b91 "com/example/sure_paths/surepaths/model/ClassToExistential" "subClass" "Ljava/lang/String;" .null := D91 (Or.inr (hw _ (List.mem_of_getElem? (i := 76) rfl))) (ty := (.object "java/lang/String")) (by decide)
        have F91_property : Fld Z h91 b91 "com/example/sure_paths/surepaths/model/ClassToExistential" "property" "Ljava/lang/String;" .null := D91 (Or.inr (hw _ (List.mem_of_getElem? (i := 79) rfl))) (ty := (.object "java/lang/String")) (by decide)
        have F91_filler : Fld Z h91 b91 "com/example/sure_paths/surepaths/model/ClassToExistential" "filler" "Ljava/lang/String;" .null := D91 (Or.inr (hw _ (List.mem_of_getElem? (i := 82) rfl))) (ty := (.object "java/lang/String")) (by decide)
        refine go_of (B := (T91.setTop (mkF m 140 #[.val (.int pa), .val (.int fa), .val (.int sa), .val (.int md), .val (.ref b1), .val (.int (md &&& (3 : Int32))), .unset, .unset] [(.ref b91)]))) (st91) ?_
        refine go_of (B := (T91.setTop (mkF m 141 #[.val (.int pa), .val (.int fa), .val (.int sa), .val (.int md), .val (.ref b1), .val (.int (md &&& (3 : Int32))), .unset, .unset] [(.ref b91), (.ref b91)]))) (fun _ kk => XS.dup X91.here hx rfl (hb hby at_140) rfl rfl kk) ?_
        refine go_of (B := (T91.setTop (mkF m 142 #[.val (.int pa), .val (.int fa), .val (.int sa), .val (.int md), .val (.ref b1), .val (.int (md &&& (3 : Int32))), .unset, .unset] [(.int pa), (.ref b91), (.ref b91)]))) (fun _ kk => XS.iloadN X91.here hx rfl (hb hby at_141) rfl kk) ?_
        have cf_92 := (((cf_6.keep K7 all0).keep K14 (allS (by first | omega | exact own_ne (by omega) | exact own_le (by omega) | exact own_lt (by omega)) all0)).ext E91)
        obtain ⟨_, _, ⟨T93, L93, k93, n93⟩, -, X93, ⟨Lc93, hQ93, l93, y93, z93⟩, st93⟩ := Jvm.LawKit.callS X91 hx (y := (⟨"com/example/sure_paths/surepaths/model/ExistentialToClassEqualsPinLaw", "mine", "(I)Ljava/lang/String;"⟩ : MethodName)) hown (mvT hZ (hw _ (List.mem_of_getElem? (i := 3) rfl))) (mvT hZ (hw _ (List.mem_of_getElem? (i := 4) rfl))) (mvT hZ (hw _ (List.mem_of_getElem? (i := 5) rfl))) (mvT hZ (hw _ (List.mem_of_getElem? (i := 6) rfl))) (by decide) (backOf (W := 2) (rm1 l Z a0 hw [] pa gC h91 n0 (by first | omega | exact own_ne (by omega) | exact own_le (by omega) | exact own_lt (by omega)) cf_92 SC hgC) hZ (hw _ (List.mem_of_getElem? (i := 6) rfl)) (hw _ (List.mem_of_getElem? (i := 5) rfl)) (by decide) (by decide)) (g := (mkF m 142 #[.val (.int pa), .val (.int fa), .val (.int sa), .val (.int md), .val (.ref b1), .val (.int (md &&& (3 : Int32))), .unset, .unset] [(.int pa), (.ref b91), (.ref b91)])) rfl (by rw [hml]; rfl) (argsL := [(.int pa)]) (rest := [(.ref b91), (.ref b91)]) (lenOf pd__I_Ljava_lang_String_ rfl) rfl (by show 2 * 0 + _ ≤ _; exact Nat.le_of_eq rfl) (hb hby at_142) (fun _ _ => ⟨rfl, e91, (by decide : 17 + 3 ≤ _), (by decide : 132 + 6 ≤ _)⟩)
        dsimp only [Pt.U, Pt.locs, Pt.cells, Pt.slots] at X93 l93 y93 z93 st93 hQ93
        subst l93 y93 z93
        obtain ⟨b93, rfl, N93q, lo93, K93, S93⟩ := hQ93
        have lo93 := own_nle lo93
        have N93 := Fr.app N14 N93q
        have hi93 := own_nlt (S93.exa.lt)
        have sz93 := K93.1
        refine go_of (B := (T93.setTop (mkF m 145 #[.val (.int pa), .val (.int fa), .val (.int sa), .val (.int md), .val (.ref b1), .val (.int (md &&& (3 : Int32))), .unset, .unset] [(.ref b93), (.ref b91), (.ref b91)]))) (st93) ?_
        refine go_of (B := (T93.setTop (mkF m 146 #[.val (.int pa), .val (.int fa), .val (.int sa), .val (.int md), .val (.ref b1), .val (.int (md &&& (3 : Int32))), .unset, .unset] [(.int fa), (.ref b93), (.ref b91), (.ref b91)]))) (fun _ kk => XS.iloadN X93.here hx rfl (hb hby at_145) rfl kk) ?_
        have cf_94 := (cf_92.keep K93 all0)
        obtain ⟨_, _, ⟨T95, L95, k95, n95⟩, -, X95, ⟨Lc95, hQ95, l95, y95, z95⟩, st95⟩ := Jvm.LawKit.callS X93 hx (y := (⟨"com/example/sure_paths/surepaths/model/ExistentialToClassEqualsPinLaw", "mine", "(I)Ljava/lang/String;"⟩ : MethodName)) hown (mvT hZ (hw _ (List.mem_of_getElem? (i := 3) rfl))) (mvT hZ (hw _ (List.mem_of_getElem? (i := 4) rfl))) (mvT hZ (hw _ (List.mem_of_getElem? (i := 5) rfl))) (mvT hZ (hw _ (List.mem_of_getElem? (i := 6) rfl))) (by decide) (backOf (W := 3) (rm1 l Z a0 hw [] fa gC T93.heap n0 (by first | omega | exact own_ne (by omega) | exact own_le (by omega) | exact own_lt (by omega)) cf_94 SC hgC) hZ (hw _ (List.mem_of_getElem? (i := 6) rfl)) (hw _ (List.mem_of_getElem? (i := 5) rfl)) (by decide) (by decide)) (g := (mkF m 146 #[.val (.int pa), .val (.int fa), .val (.int sa), .val (.int md), .val (.ref b1), .val (.int (md &&& (3 : Int32))), .unset, .unset] [(.int fa), (.ref b93), (.ref b91), (.ref b91)])) rfl (by rw [hml]; rfl) (argsL := [(.int fa)]) (rest := [(.ref b93), (.ref b91), (.ref b91)]) (lenOf pd__I_Ljava_lang_String_ rfl) rfl (by show 2 * 0 + _ ≤ _; exact Nat.le_of_eq rfl) (hb hby at_146) (fun _ _ => ⟨rfl, rfl, (by decide : 20 + 3 ≤ _), (by decide : 138 + 6 ≤ _)⟩)
        dsimp only [Pt.U, Pt.locs, Pt.cells, Pt.slots] at X95 l95 y95 z95 st95 hQ95
        subst l95 y95 z95
        obtain ⟨b95, rfl, N95q, lo95, K95, S95⟩ := hQ95
        have lo95 := own_nle lo95
        have N95 := Fr.app N93 N95q
        have hi95 := own_nlt (S95.exa.lt)
        have sz95 := K95.1
        refine go_of (B := (T95.setTop (mkF m 149 #[.val (.int pa), .val (.int fa), .val (.int sa), .val (.int md), .val (.ref b1), .val (.int (md &&& (3 : Int32))), .unset, .unset] [(.ref b95), (.ref b93), (.ref b91), (.ref b91)]))) (st95) ?_
        refine go_of (B := (T95.setTop (mkF m 150 #[.val (.int pa), .val (.int fa), .val (.int sa), .val (.int md), .val (.ref b1), .val (.int (md &&& (3 : Int32))), .unset, .unset] [(.int sa), (.ref b95), (.ref b93), (.ref b91), (.ref b91)]))) (fun _ kk => XS.iloadN X95.here hx rfl (hb hby at_149) rfl kk) ?_
        have cf_96 := (cf_94.keep K95 all0)
        obtain ⟨_, _, ⟨T97, L97, k97, n97⟩, -, X97, ⟨Lc97, hQ97, l97, y97, z97⟩, st97⟩ := Jvm.LawKit.callS X95 hx (y := (⟨"com/example/sure_paths/surepaths/model/ExistentialToClassEqualsPinLaw", "mine", "(I)Ljava/lang/String;"⟩ : MethodName)) hown (mvT hZ (hw _ (List.mem_of_getElem? (i := 3) rfl))) (mvT hZ (hw _ (List.mem_of_getElem? (i := 4) rfl))) (mvT hZ (hw _ (List.mem_of_getElem? (i := 5) rfl))) (mvT hZ (hw _ (List.mem_of_getElem? (i := 6) rfl))) (by decide) (backOf (W := 4) (rm1 l Z a0 hw [] sa gC T95.heap n0 (by first | omega | exact own_ne (by omega) | exact own_le (by omega) | exact own_lt (by omega)) cf_96 SC hgC) hZ (hw _ (List.mem_of_getElem? (i := 6) rfl)) (hw _ (List.mem_of_getElem? (i := 5) rfl)) (by decide) (by decide)) (g := (mkF m 150 #[.val (.int pa), .val (.int fa), .val (.int sa), .val (.int md), .val (.ref b1), .val (.int (md &&& (3 : Int32))), .unset, .unset] [(.int sa), (.ref b95), (.ref b93), (.ref b91), (.ref b91)])) rfl (by rw [hml]; rfl) (argsL := [(.int sa)]) (rest := [(.ref b95), (.ref b93), (.ref b91), (.ref b91)]) (lenOf pd__I_Ljava_lang_String_ rfl) rfl (by show 2 * 0 + _ ≤ _; exact Nat.le_of_eq rfl) (hb hby at_150) (fun _ _ => ⟨rfl, rfl, (by decide : 23 + 3 ≤ _), (by decide : 144 + 6 ≤ _)⟩)
        dsimp only [Pt.U, Pt.locs, Pt.cells, Pt.slots] at X97 l97 y97 z97 st97 hQ97
        subst l97 y97 z97
        obtain ⟨b97, rfl, N97q, lo97, K97, S97⟩ := hQ97
        have lo97 := own_nle lo97
        have N97 := Fr.app N95 N97q
        have hi97 := own_nlt (S97.exa.lt)
        have sz97 := K97.1
        refine go_of (B := (T97.setTop (mkF m 153 #[.val (.int pa), .val (.int fa), .val (.int sa), .val (.int md), .val (.ref b1), .val (.int (md &&& (3 : Int32))), .unset, .unset] [(.ref b97), (.ref b95), (.ref b93), (.ref b91), (.ref b91)]))) (st97) ?_
        have cf_98 := (((A91.keep K93).keep K95).keep K97)
        have cf_99 := (((F91_subClass.keep K93 nin0).keep K95 nin0).keep K97 nin0)
        have cf_100 := (((F91_property.keep K93 nin0).keep K95 nin0).keep K97 nin0)
        have cf_101 := (((F91_filler.keep K93 nin0).keep K95 nin0).keep K97 nin0)
        have cf_102 := ((S93.exa.keep K95).keep K97)
        have cf_103 := (S95.exa.keep K97)
        obtain ⟨_, _, ⟨T104, L104, k104, n104⟩, -, X104', hS104', gr104, ⟨Lc104, hQ104, l104, y104, z104⟩, st104⟩ := X97.specialBackS hx (y := (⟨"com/example/sure_paths/surepaths/model/ClassToExistential", "<init>", "(Ljava/lang/String;Ljava/lang/String;Ljava/lang/String;)V"⟩ : MethodName)) rfl hown (mvT hZ (hw _ (List.mem_of_getElem? (i := 68) rfl))) (mvT hZ (hw _ (List.mem_of_getElem? (i := 69) rfl))) (mvT hZ (hw _ (List.mem_of_getElem? (i := 70) rfl))) (by decide) (backOfS (W := 1) (rm12 l Z a0 hw [] b91 b93 b95 b97 _ _ _ T97.heap n0 (by first | omega | exact own_ne (by omega) | exact own_le (by omega) | exact own_lt (by omega)) cf_98 cf_99 cf_100 cf_101 (by first | omega | exact own_ne (by omega) | exact own_le (by omega) | exact own_lt (by omega)) cf_102 cf_103 S97.exa) hZ (hw _ (List.mem_of_getElem? (i := 70) rfl)) (hw _ (List.mem_of_getElem? (i := 67) rfl)) (by decide) (by decide)) (g := (mkF m 153 #[.val (.int pa), .val (.int fa), .val (.int sa), .val (.int md), .val (.ref b1), .val (.int (md &&& (3 : Int32))), .unset, .unset] [(.ref b97), (.ref b95), (.ref b93), (.ref b91), (.ref b91)])) rfl (by rw [hml]; rfl) (Steps.refl _) (a := b91) (argsL := [(.ref b93), (.ref b95), (.ref b97)]) (rest := [(.ref b91)]) (lenOf pd__Ljava_lang_String_Ljava_lang_String_Ljava_lang_String__V rfl) rfl (by show 2 * 0 + _ ≤ _; exact Nat.le_of_eq rfl) (hb hby at_153) (fun _ _ => ⟨rfl, rfl, (by decide : 26 + 6 ≤ _), (by decide : 150 + 100 ≤ _)⟩)
        dsimp only [Pt.U, Pt.locs, Pt.cells, Pt.slots] at X104' hS104' gr104 l104 y104 z104 st104 hQ104
        subst l104 y104 z104
        have X104 : Stand _ _ _ _ (s.setVm T104.vm) _ _ _ _ _ T104 _ _ _ := X104'
        have hS : s.Since T104.vm T104.heap.size := foldS hS (by first | omega | exact own_ne (by omega) | exact own_le (by omega) | exact own_lt (by omega)) hS104' gr104
        have hZ : Z.Warmed39 (s.setVm T104.vm).vm := State.Warmed39.trans (t := s.setVm T14.vm) hZ hS104'.1
        have hown : (s.setVm T104.vm).vm.findClass "com/example/sure_paths/surepaths/model/ExistentialToClassEqualsPinLaw" = some m.cls := by rw [show (s.setVm T104.vm).vm = T104.vm from rfl, hS104'.1.alike.findClass]; exact hown
        obtain ⟨rfl, N104q, K104, A104⟩ := hQ104
        have N104 := Fr.app N97 N104q
        have sz104 := K104.1
        refine go_tr (B := (T104.setTop (mkF m 156 #[.val (.int pa), .val (.int fa), .val (.int sa), .val (.int md), .val (.ref b1), .val (.int (md &&& (3 : Int32))), .unset, .unset] [(.ref b91)]))) (st104) ?_
        refine go_of (B := (T104.setTop (mkF m 158 #[.val (.int pa), .val (.int fa), .val (.int sa), .val (.int md), .val (.ref b1), .val (.int (md &&& (3 : Int32))), .val (.ref b91), .unset] []))) (fun _ kk => XS.astore X104.here hx rfl (hb hby at_156) rfl rfl rfl kk) ?_
        refine go_of (B := (T104.setTop (mkF m 160 #[.val (.int pa), .val (.int fa), .val (.int sa), .val (.int md), .val (.ref b1), .val (.int (md &&& (3 : Int32))), .val (.ref b91), .unset] [(.ref b1)]))) (fun _ kk => XS.aload X104.here hx rfl (hb hby at_158) rfl rfl kk) ?_
        refine go_of (B := (T104.setTop (mkF m 162 #[.val (.int pa), .val (.int fa), .val (.int sa), .val (.int md), .val (.ref b1), .val (.int (md &&& (3 : Int32))), .val (.ref b91), .unset] [(.ref b91), (.ref b1)]))) (fun _ kk => XS.aload X104.here hx rfl (hb hby at_160) rfl rfl kk) ?_
        have cf_106 := (((((A14.1.ext E91).keep K93).keep K95).keep K97).keep K104)
        obtain ⟨cq105, kq105, q105a, q105b, q105c⟩ := isOf hZ rfl cf_106
        obtain ⟨_, _, ⟨T105, L105, k105, n105⟩, -, X105, ⟨Lc105, hQ105, l105, y105, z105⟩, st105⟩ := X104.virtualBack hx (y := (⟨"com/example/sure_paths/surepaths/model/ExistentialToClass", "equals", "(Ljava/lang/Object;)Z"⟩ : MethodName)) (z := (⟨"com/example/sure_paths/surepaths/model/ExistentialToClass", "equals", "(Ljava/lang/Object;)Z"⟩ : MethodName)) hown (mvT hZ (hw _ (List.mem_of_getElem? (i := 60) rfl))) (mvT hZ (hw _ (List.mem_of_getElem? (i := 61) rfl))) (notFace_of_selects (args := #[]) (mvT hZ (hw _ (List.mem_of_getElem? (i := 63) rfl)))) (mvT hZ (hw _ (List.mem_of_getElem? (i := 63) rfl))) (mvT hZ (hw _ (List.mem_of_getElem? (i := 62) rfl))) (by decide) (backOf (W := 0) (eq_other l Z a0 hw [] b1 b91 T104.heap n0 (by first | omega | exact own_ne (by omega) | exact own_le (by omega) | exact own_lt (by omega)) A104.1) hZ (hw _ (List.mem_of_getElem? (i := 64) rfl)) (hw _ (List.mem_of_getElem? (i := 2) rfl)) (by decide) (by decide)) q105a q105c (g := (mkF m 162 #[.val (.int pa), .val (.int fa), .val (.int sa), .val (.int md), .val (.ref b1), .val (.int (md &&& (3 : Int32))), .val (.ref b91), .unset] [(.ref b91), (.ref b1)])) rfl (by rw [hml]; rfl) (Steps.refl _) (argsL := [(.ref b91)]) (rest := []) (lenOf pd__Ljava_lang_Object__Z rfl) rfl (by show 2 * 0 + _ ≤ _; exact Nat.le_of_eq rfl) (hb hby at_162) (fun _ _ => ⟨rfl, rfl, (by decide : 32 + 0 ≤ _), (by decide : 250 + 0 ≤ _)⟩)
        dsimp only [Pt.U, Pt.locs, Pt.cells, Pt.slots] at X105 l105 y105 z105 st105 hQ105
        subst l105 y105 z105
        obtain ⟨rfl, N105q, e105⟩ := hQ105
        have N105 := Fr.app N104 N105q
        refine go_tr (B := (T105.setTop (mkF m 165 #[.val (.int pa), .val (.int fa), .val (.int sa), .val (.int md), .val (.ref b1), .val (.int (md &&& (3 : Int32))), .val (.ref b91), .unset] [(.int (0 : Int32))]))) (st105) ?_
        refine go_of (B := (T105.setTop (mkF m 168 #[.val (.int pa), .val (.int fa), .val (.int sa), .val (.int md), .val (.ref b1), .val (.int (md &&& (3 : Int32))), .val (.ref b91), .unset] []))) (fun _ kk => XS.ifNo X105.here hx rfl (hb hby at_165) rfl ((if0 _ _).trans (teq (by decide : (0 : Int32) = (0 : Int32))).2) kk) ?_
        refine go_of (B := (T105.setTop (mkF m 169 #[.val (.int pa), .val (.int fa), .val (.int sa), .val (.int md), .val (.ref b1), .val (.int (md &&& (3 : Int32))), .val (.ref b91), .unset] [(.int (1 : Int32))]))) (fun _ kk => XS.iconst X105.here hx rfl (hb hby at_168) kk) ?_
        refine go_of (B := (T105.setTop (mkF m 173 #[.val (.int pa), .val (.int fa), .val (.int sa), .val (.int md), .val (.ref b1), .val (.int (md &&& (3 : Int32))), .val (.ref b91), .unset] [(.int (1 : Int32))]))) (fun _ kk => XS.goto X105.here hx rfl (pc0 := 169) (pc' := 173) rfl (hb hby at_169) (by decide) (by decide) kk) ?_
        refine go_endW X105 hS (by rw [e105]; omega) (v := some (.int (nar .boolean (1 : Int32)))) (fun h => by rw [Bd.returns] at h; cases h) Bd.notSynchronized (by decide) (by decide) (Q := (Q_rm0 Z pa fa sa md gC h0 n0)) ?_ (fun fs hr => retN X105 hx (t := .boolean) Bd.returns (by simp) (hb hby at_173) hr)
        show (fun (v : Option Value) (h : Heap) (L : List Loc) => v = some (.int 1) ∧ Fr n0 L) (some (.int (nar .boolean (1 : Int32)))) T105.heap _
        rw [e105]
        refine ⟨?_, N105⟩
        first | rfl | simp [own_eq3, nar]
      · refine go_of (B := (T14.setTop (mkF m 174 #[.val (.int pa), .val (.int fa), .val (.int sa), .val (.int md), .val (.ref b1), .val (.int (md &&& (3 : Int32))), .unset, .unset] []))) (fun _ kk => XS.icmpYes X14.here hx rfl (pc0 := 134) (pc' := 174) rfl (hb hby at_134) rfl (feq hc90).2 (by decide) (by decide) kk) ?_
        refine go_of (B := (T14.setTop (mkF m 176 #[.val (.int pa), .val (.int fa), .val (.int sa), .val (.int md), .val (.ref b1), .val (.int (md &&& (3 : Int32))), .unset, .unset] [(.ref b1)]))) (fun _ kk => XS.aload X14.here hx rfl (hb hby at_174) rfl rfl kk) ?_
        refine go_of (B := (T14.setTop (mkF m 178 #[.val (.int pa), .val (.int fa), .val (.int sa), .val (.int md), .val (.ref b1), .val (.int (md &&& (3 : Int32))), .unset, .unset] [(.ref b1), (.ref b1)]))) (fun _ kk => XS.aload X14.here hx rfl (hb hby at_176) rfl rfl kk) ?_
        have cf_107 := S3.keep ((((Keep.refl T3.heap [b1]).trans K5 all0).trans K7 all0).trans K14 (allS (Or.inl (List.mem_of_getElem? (i := 0) rfl)) all0)) (allS (by first | omega | exact own_ne (by omega) | exact own_le (by omega) | exact own_lt (by omega)) all0)
        have cf_108 := S5.keep (((Keep.refl T5.heap [b1]).trans K7 all0).trans K14 (allS (Or.inl (List.mem_of_getElem? (i := 0) rfl)) all0)) (allS (by first | omega | exact own_ne (by omega) | exact own_le (by omega) | exact own_lt (by omega)) all0)
        have cf_109 := S7.keep ((Keep.refl T7.heap [b1]).trans K14 (allS (Or.inl (List.mem_of_getElem? (i := 0) rfl)) all0)) (allS (by first | omega | exact own_ne (by omega) | exact own_le (by omega) | exact own_lt (by omega)) all0)
        have cf_110 := ((cf_6.keep K7 all0).keep K14 (allS (by first | omega | exact own_ne (by omega) | exact own_le (by omega) | exact own_lt (by omega)) all0))
        obtain ⟨cq111, kq111, q111a, q111b, q111c⟩ := isOf hZ rfl A14.1
        obtain ⟨_, _, ⟨T111, L111, k111, n111⟩, -, X111, ⟨Lc111, hQ111, l111, y111, z111⟩, st111⟩ := X14.virtualBack hx (y := (⟨"com/example/sure_paths/surepaths/model/ExistentialToClass", "equals", "(Ljava/lang/Object;)Z"⟩ : MethodName)) (z := (⟨"com/example/sure_paths/surepaths/model/ExistentialToClass", "equals", "(Ljava/lang/Object;)Z"⟩ : MethodName)) hown (mvT hZ (hw _ (List.mem_of_getElem? (i := 60) rfl))) (mvT hZ (hw _ (List.mem_of_getElem? (i := 61) rfl))) (notFace_of_selects (args := #[]) (mvT hZ (hw _ (List.mem_of_getElem? (i := 63) rfl)))) (mvT hZ (hw _ (List.mem_of_getElem? (i := 63) rfl))) (mvT hZ (hw _ (List.mem_of_getElem? (i := 62) rfl))) (by decide) (backOf (W := 0) (eq_same l Z a0 hw [] b1 b1 b3 b5 b7 b3 b5 b7 [own_ch pa] [own_ch fa] [own_ch sa] [own_ch pa] [own_ch fa] [own_ch sa] gC T14.heap n0 (by first | omega | exact own_ne (by omega) | exact own_le (by omega) | exact own_lt (by omega)) cf_110 SC hgC ⟨A14.1, A14.2.1, A14.2.2.1, A14.2.2.2⟩ ⟨A14.1, A14.2.1, A14.2.2.1, A14.2.2.2⟩ cf_107 cf_108 cf_109 cf_107 cf_108 cf_109 (fun _ => rfl) (fun _ => rfl) (fun _ => rfl)) hZ (hw _ (List.mem_of_getElem? (i := 64) rfl)) (hw _ (List.mem_of_getElem? (i := 2) rfl)) (by decide) (by decide)) q111a q111c (g := (mkF m 178 #[.val (.int pa), .val (.int fa), .val (.int sa), .val (.int md), .val (.ref b1), .val (.int (md &&& (3 : Int32))), .unset, .unset] [(.ref b1), (.ref b1)])) rfl (by rw [hml]; rfl) (Steps.refl _) (argsL := [(.ref b1)]) (rest := []) (lenOf pd__Ljava_lang_Object__Z rfl) rfl (by show 2 * 0 + _ ≤ _; exact Nat.le_of_eq rfl) (hb hby at_178) (fun _ _ => ⟨rfl, rfl, (by decide : 16 + 0 ≤ _), (by decide : 129 + 0 ≤ _)⟩)
        dsimp only [Pt.U, Pt.locs, Pt.cells, Pt.slots] at X111 l111 y111 z111 st111 hQ111
        subst l111 y111 z111
        obtain ⟨rfl, N111q, e111⟩ := hQ111
        have N111 := Fr.app N14 N111q
        refine go_tr (B := (T111.setTop (mkF m 181 #[.val (.int pa), .val (.int fa), .val (.int sa), .val (.int md), .val (.ref b1), .val (.int (md &&& (3 : Int32))), .unset, .unset] [(.int (own_eq3 [own_ch pa] [own_ch pa] [own_ch fa] [own_ch fa] [own_ch sa] [own_ch sa]))]))) (st111) ?_
        refine go_endW X111 hS (by rw [e111]; omega) (v := some (.int (nar .boolean (own_eq3 [own_ch pa] [own_ch pa] [own_ch fa] [own_ch fa] [own_ch sa] [own_ch sa])))) (fun h => by rw [Bd.returns] at h; cases h) Bd.notSynchronized (by decide) (by decide) (Q := (Q_rm0 Z pa fa sa md gC h0 n0)) ?_ (fun fs hr => retN X111 hx (t := .boolean) Bd.returns (by simp) (hb hby at_181) hr)
        show (fun (v : Option Value) (h : Heap) (L : List Loc) => v = some (.int 1) ∧ Fr n0 L) (some (.int (nar .boolean (own_eq3 [own_ch pa] [own_ch pa] [own_ch fa] [own_ch fa] [own_ch sa] [own_ch sa])))) T111.heap _
        rw [e111]
        refine ⟨?_, N111⟩
        first | rfl | simp [own_eq3, nar]
theorem own_ne0 {t : Term} {g : Int32} {args : Array Value} {s : State} (ev : t.eval args s none [] s = some (.int g)) (h : (Jvm.Cond.not (.eq t (.int 0))).value args s none s [] = some true) : ¬ g = (0 : Int32) := by
  have h1 := not_v h
  intro q; subst q
  simp [Cond.value, ev, Term.int_eval] at h1
set_option maxRecDepth 65536 in
set_option maxHeartbeats 40000000 in
theorem comes_1 {Post : Tables → Env → Array Value → State → Outcome → State → Prop} (hpost : ∀ tb e args s v u, (limb_1_1.after args s (.returned v) u = true ∧ limb_1_2.after args s (.returned v) u = true ∧ True) → ReturnedEndW s (.returned v) u (Jvm.fieldLocs frame_1_writes args s ++ Jvm.arrayLocs frame_1_arrays args s ++ Jvm.staticLocs frame_1_statics s) 64 6336 → Post tb e args s (.returned v) u) :
    ArmFor flags0 classFile x code maxLocals ret World_1 tables_1 room_1 Calls_1 rest_1 Pre_1 Post := by
  intro l hfl _ _ p e ha hc hk s m args below hf hA hF happ hP
  obtain ⟨hcalls, hrest, hpre⟩ := hP
  obtain ⟨-, -, -, hnamed, -, -, -, hat⟩ := (Spec.applies_iff hf).mp happ
  obtain ⟨hg, hn⟩ := and_e (Cond.before_iff.mp (show (Jvm.Cond.and given_1 narrow_1).before args s = true from hpre))
  obtain ⟨g1, g2⟩ := and_e hg
  obtain ⟨g3, g4⟩ := and_e g2
  obtain ⟨g5, g6⟩ := and_e g4
  obtain ⟨g7, g8⟩ := and_e g6
  obtain ⟨w0, w1, w2, w3, rfl⟩ : ∃ w0 w1 w2 w3 : Value, args = #[w0, w1, w2, w3] := by
    have hs : args.size = 4 := by simpa [Cond.value, given_1] using g1
    obtain ⟨L⟩ := args
    match L, hs with
    | [w0, w1, w2, w3], _ => exact ⟨w0, w1, w2, w3, rfl⟩
  have hw := fun d (hd : d ∈ tables_1) => atoms_spec (ws := Jvm.Cond.code x code maxLocals ret :: tables_1) hat d (List.mem_cons_of_mem _ hd)
  have hfit : Fit s := fun {y c} hc i hi => by
    obtain ⟨ha, rfl⟩ := Array.getElem?_eq_some_iff.mp hc
    have q := List.all_eq_true.mp ((Array.all_eq_true_iff_forall_mem.mp hF) _ (Array.getElem_mem ha)) i (List.mem_range.mpr hi)
    simpa [Array.getElem?_eq_getElem hi] using q
  obtain ⟨hsets, hown0⟩ := atoms_of _ (rest_1_c_eq ▸ (show rest_1_c.before _ s = true from hrest))
  have hr0 := Cond.before_iff.mp hown0
  obtain ⟨i0, ei0⟩ := is_v g3
  obtain rfl : w0 = (.int i0) := Option.some.inj ei0
  obtain ⟨i1, ei1⟩ := is_v g5
  obtain rfl : w1 = (.int i1) := Option.some.inj ei1
  obtain ⟨i2, ei2⟩ := is_v g7
  obtain rfl : w2 = (.int i2) := Option.some.inj ei2
  obtain ⟨i3, ei3⟩ := is_v g8
  obtain rfl : w3 = (.int i3) := Option.some.inj ei3
  obtain ⟨gC, evC⟩ := is_v (Cond.before_iff.mp (hsets _ (List.mem_of_getElem? (i := 1) rfl)))
  have SC := Sta.start evC (Or.inl (hsets _ (List.mem_of_getElem? (i := 0) rfl)))
  have hgC : ¬ gC = (0 : Int32) := own_ne0 evC (Cond.before_iff.mp (hsets _ (List.mem_of_getElem? (i := 2) rfl)))
  obtain ⟨n, o, h1, h2, h3, _, L, rfl, ⟨rfl, N⟩, hq⟩ := rm0 l s _ hw tables_1 i0 i1 i2 i3 gC s.heap s.heap.size (Nat.le_refl _) (Old.start s) SC hgC p e ha hc hk s m _ below hf ((Spec.applies_iff_loose hf).mp happ).1 ⟨rfl, State.Warmed39.refl s, rfl⟩ trivial
  exact ⟨n, _, h1, h2, h3, hpost _ _ _ _ _ _ ⟨Cond.after_iff.mpr rfl, Cond.after_iff.mpr (eq_i res_at (Term.int_eval (1)) rfl), trivial⟩ ⟨hq.1, hq.2.1, hq.2.2.1, (hq.2.2.2.sift fun y hy => Or.inr (N y hy)).mono (by decide) (by decide)⟩⟩
theorem main_1_1 : Claimed_1_1 := comes_1 fun _ _ _ _ _ _ h hF => ⟨h.1, hF⟩
theorem main_1_2 : Claimed_1_2 := comes_1 fun _ _ _ _ _ _ h hF => ⟨h.2.1, hF⟩
end Jvm.Pilot.@@N@@
namespace Jvm.Pilot.@@N@@
open Jvm Jvm.ClassFile Sem Op Lib Jvm.Free Jvm.Stand Jvm.Pilot.@@N@@.Jvm.D
/-! MADE BY PROGRAM (witnessworld.py) out of the Statement's table words and the real class files: 23 classes; the members and pool entries that the words name. The judged class is class 1, her method 6. -/
namespace start1
open Jvm.ClassFile
def u (s : String) : CpInfo := .utf8 (stringToUtf16 s)
/-- a pool by its gaps: so many unusable entries, then the entry; so many at the end -/
def gap : Nat → List CpInfo → List CpInfo
  | 0, r => r
  | n + 1, r => .unusable :: gap n r
def poolList (es : List (Nat × CpInfo)) (last : Nat) : List CpInfo := es.foldr (fun e r => gap e.1 (e.2 :: r)) (gap last [])
def pool (es : List (Nat × CpInfo)) (last : Nat) : Array CpInfo := ⟨poolList es last⟩
def fileOf (pool : Array CpInfo) (this : Nat) (attrs : Array Attribute := #[]) (ms : Array MethodInfo := #[]) (fl : Nat := 33) (sup : Nat := 0) (ifs : Array Nat := #[]) (fds : Array FieldInfo := #[]) : ClassFile where
  minorVersion := 0
  majorVersion := 65
  constantPool := pool
  accessFlags := fl
  thisClass := this
  superClass := sup
  interfaces := ifs
  fields := fds
  methods := ms
  attributes := attrs
def plain (name : String) (sup : Option ClassId) : Class where
  name := name
  kind := .ordinary
  loader := none
  accessFlags := 33
  super := sup
  interfaces := #[]
  cf := none
  fields := #[]
  methods := #[]
  instanceTypes := #[]
  staticTypes := #[]
  resolved := #[]
  callSites := []
  init := .initialized
  statics := none
  mirror := none

def pool0 : Array CpInfo := pool [(5, u "<init>"), (0, u "()V"), (1, .class_ 10), (1, u "java/lang/Object")] 113

def k0c0 : Code := { maxStack := 0, maxLocals := 1, code := object_method_1_code, exceptionTable := #[], attributes := #[] }
def k0m0 : Method := { name := "<init>", desc := "()V", sig := { parameters := [], returnType := none }, accessFlags := 1, code := some k0c0 }
/-- java/lang/Object -/
def k0 : Class := { plain "java/lang/Object" none with
  accessFlags := 33
  interfaces := #[]
  cf := some (fileOf pool0 8 #[] #[{ accessFlags := 1, nameIndex := 5, descriptorIndex := 6, attributes := #[] }] 33 0 #[] #[])
  fields := #[]
  methods := #[k0m0]
  instanceTypes := #[]
  staticTypes := #[]
  resolved := Array.replicate 124 none
  statics := none }

def pool1 : Array CpInfo := pool [(2, .class_ 4), (1, u "java/lang/Object"), (0, u "<init>"), (0, u "()V"), (0, .class_ 8), (0, u "java/lang/String"), (0, .methodref 7 10), (0, .nameAndType 5 11), (0, u "([C)V"), (0, .methodref 13 14), (0, .class_ 15), (0, .nameAndType 16 17), (0, u "com/example/sure_paths/surepaths/model/ExistentialToClassEqualsPinLaw"), (0, u "one"), (0, u "(C)Ljava/lang/String;"), (0, .methodref 13 19), (0, .nameAndType 20 21), (0, u "two"), (0, u "(CC)Ljava/lang/String;"), (0, .class_ 23), (0, u "com/example/sure_paths/surepaths/model/ExistentialToClass"), (0, .methodref 13 25), (0, .nameAndType 26 27), (0, u "mine"), (0, u "(I)Ljava/lang/String;"), (0, .methodref 22 29), (0, .nameAndType 5 30), (0, u "(Ljava/lang/String;Ljava/lang/String;Ljava/lang/String;)V"), (0, .methodref 13 32), (0, .nameAndType 33 27), (0, u "theirs"), (0, .methodref 13 35), (0, .nameAndType 36 37), (0, u "expectSame"), (0, u "(I)Z"), (0, .methodref 22 39), (0, .nameAndType 40 41), (0, u "equals"), (0, u "(Ljava/lang/Object;)Z"), (0, .class_ 43), (0, u "com/example/sure_paths/surepaths/model/ClassToExistential"), (0, .methodref 42 29), (3, u "law"), (0, u "(IIII)Z")] 2

def k1m0 : Method := { name := "<init>", desc := "()V", sig := { parameters := [], returnType := none }, accessFlags := 1, code := none }
def k1c1 : Code := { maxStack := 6, maxLocals := 1, code := method_2_code, exceptionTable := #[], attributes := #[] }
def k1m1 : Method := { name := "one", desc := "(C)Ljava/lang/String;", sig := { parameters := [.char], returnType := some (.object "java/lang/String") }, accessFlags := 10, code := some k1c1 }
def k1c2 : Code := { maxStack := 6, maxLocals := 2, code := method_3_code, exceptionTable := #[], attributes := #[] }
def k1m2 : Method := { name := "two", desc := "(CC)Ljava/lang/String;", sig := { parameters := [.char, .char], returnType := some (.object "java/lang/String") }, accessFlags := 10, code := some k1c2 }
def k1c3 : Code := { maxStack := 2, maxLocals := 1, code := method_4_code, exceptionTable := #[], attributes := #[] }
def k1m3 : Method := { name := "mine", desc := "(I)Ljava/lang/String;", sig := { parameters := [.int], returnType := some (.object "java/lang/String") }, accessFlags := 10, code := some k1c3 }
def k1c4 : Code := { maxStack := 3, maxLocals := 3, code := method_5_code, exceptionTable := #[], attributes := #[] }
def k1m4 : Method := { name := "theirs", desc := "(I)Ljava/lang/String;", sig := { parameters := [.int], returnType := some (.object "java/lang/String") }, accessFlags := 10, code := some k1c4 }
def k1c5 : Code := { maxStack := 3, maxLocals := 1, code := method_6_code, exceptionTable := #[], attributes := #[] }
def k1m5 : Method := { name := "expectSame", desc := "(I)Z", sig := { parameters := [.int], returnType := some .boolean }, accessFlags := 10, code := some k1c5 }
def k1c6 : Code := { maxStack := 5, maxLocals := 8, code := code, exceptionTable := #[], attributes := #[] }
def k1m6 : Method := { name := "law", desc := "(IIII)Z", sig := { parameters := [.int, .int, .int, .int], returnType := some .boolean }, accessFlags := 9, code := some k1c6 }
/-- com/example/sure_paths/surepaths/model/ExistentialToClassEqualsPinLaw -/
def k1 : Class := { plain "com/example/sure_paths/surepaths/model/ExistentialToClassEqualsPinLaw" (some 0) with
  accessFlags := 49
  interfaces := #[]
  cf := some (fileOf pool1 13 #[] #[{ accessFlags := 1, nameIndex := 5, descriptorIndex := 6, attributes := #[] }, { accessFlags := 10, nameIndex := 16, descriptorIndex := 17, attributes := #[] }, { accessFlags := 10, nameIndex := 20, descriptorIndex := 21, attributes := #[] }, { accessFlags := 10, nameIndex := 26, descriptorIndex := 27, attributes := #[] }, { accessFlags := 10, nameIndex := 33, descriptorIndex := 27, attributes := #[] }, { accessFlags := 10, nameIndex := 36, descriptorIndex := 37, attributes := #[] }, { accessFlags := 9, nameIndex := 48, descriptorIndex := 49, attributes := #[] }] 49 2 #[] #[])
  fields := #[]
  methods := #[k1m0, k1m1, k1m2, k1m3, k1m4, k1m5, k1m6]
  instanceTypes := #[]
  staticTypes := #[]
  resolved := Array.replicate 52 none
  statics := none }

def pool2 : Array CpInfo := pool [(1, .class_ 2), (0, u "com/example/sure_paths/surepaths/model/NormalForm"), (0, .class_ 4), (0, u "java/lang/Object")] 19

/-- com/example/sure_paths/surepaths/model/NormalForm -/
def k2 : Class := { plain "com/example/sure_paths/surepaths/model/NormalForm" (some 0) with
  accessFlags := 1537
  interfaces := #[]
  cf := some (fileOf pool2 1 #[] #[] 1537 3 #[] #[])
  fields := #[]
  methods := #[]
  instanceTypes := #[]
  staticTypes := #[]
  resolved := Array.replicate 24 none
  statics := none }

def pool3 : Array CpInfo := pool [(1, .methodref 2 3), (0, .class_ 4), (0, .nameAndType 5 6), (0, u "java/lang/Object"), (0, u "<init>"), (0, u "()V"), (0, .string 8), (0, u "property"), (0, .methodref 10 11), (0, .class_ 12), (0, .nameAndType 13 14), (0, u "java/util/Objects"), (0, u "requireNonNull"), (0, u "(Ljava/lang/Object;Ljava/lang/String;)Ljava/lang/Object;"), (0, .class_ 16), (0, u "java/lang/String"), (0, .fieldref 18 19), (0, .class_ 20), (0, .nameAndType 8 21), (0, u "com/example/sure_paths/surepaths/model/ExistentialToClass"), (0, u "Ljava/lang/String;"), (0, .string 23), (0, u "filler"), (0, .fieldref 18 25), (0, .nameAndType 23 21), (0, .string 27), (0, u "superClass"), (0, .fieldref 18 29), (0, .nameAndType 27 21), (0, .methodref 15 31), (0, .nameAndType 32 33), (0, u "equals"), (0, u "(Ljava/lang/Object;)Z"), (8, .class_ 43), (0, u "com/example/sure_paths/surepaths/model/NormalForm"), (0, u "(Ljava/lang/String;Ljava/lang/String;Ljava/lang/String;)V")] 27

def k3c0 : Code := { maxStack := 3, maxLocals := 4, code := prog_36_method_1_code, exceptionTable := #[], attributes := #[] }
def k3m0 : Method := { name := "<init>", desc := "(Ljava/lang/String;Ljava/lang/String;Ljava/lang/String;)V", sig := { parameters := [(.object "java/lang/String"), (.object "java/lang/String"), (.object "java/lang/String")], returnType := none }, accessFlags := 1, code := some k3c0 }
def k3c1 : Code := { maxStack := 2, maxLocals := 3, code := prog_36_method_5_code, exceptionTable := #[], attributes := #[] }
def k3m1 : Method := { name := "equals", desc := "(Ljava/lang/Object;)Z", sig := { parameters := [(.object "java/lang/Object")], returnType := some .boolean }, accessFlags := 1, code := some k3c1 }
/-- com/example/sure_paths/surepaths/model/ExistentialToClass -/
def k3 : Class := { plain "com/example/sure_paths/surepaths/model/ExistentialToClass" (some 0) with
  accessFlags := 49
  interfaces := #[2]
  cf := some (fileOf pool3 18 #[] #[{ accessFlags := 1, nameIndex := 5, descriptorIndex := 44, attributes := #[] }, { accessFlags := 1, nameIndex := 32, descriptorIndex := 33, attributes := #[] }] 49 2 #[42] #[{ accessFlags := 18, nameIndex := 8, descriptorIndex := 21, attributes := #[] }, { accessFlags := 18, nameIndex := 23, descriptorIndex := 21, attributes := #[] }, { accessFlags := 18, nameIndex := 27, descriptorIndex := 21, attributes := #[] }])
  fields := #[{ name := "property", type := (.object "java/lang/String"), accessFlags := 18, slot := 0, constantValue := 0 }, { name := "filler", type := (.object "java/lang/String"), accessFlags := 18, slot := 1, constantValue := 0 }, { name := "superClass", type := (.object "java/lang/String"), accessFlags := 18, slot := 2, constantValue := 0 }]
  methods := #[k3m0, k3m1]
  instanceTypes := #[(.object "java/lang/String"), (.object "java/lang/String"), (.object "java/lang/String")]
  staticTypes := #[]
  resolved := Array.replicate 72 none
  statics := none }

def pool4 : Array CpInfo := pool [(1, .class_ 2), (0, u "java/io/Serializable"), (0, .class_ 4), (0, u "java/lang/Object")] 2

/-- java/io/Serializable -/
def k4 : Class := { plain "java/io/Serializable" (some 0) with
  accessFlags := 1537
  interfaces := #[]
  cf := some (fileOf pool4 1 #[] #[] 1537 3 #[] #[])
  fields := #[]
  methods := #[]
  instanceTypes := #[]
  staticTypes := #[]
  resolved := Array.replicate 7 none
  statics := none }

def pool5 : Array CpInfo := pool [(1, .class_ 2), (0, u "java/lang/Comparable"), (0, .class_ 4), (0, u "java/lang/Object")] 7

/-- java/lang/Comparable -/
def k5 : Class := { plain "java/lang/Comparable" (some 0) with
  accessFlags := 1537
  interfaces := #[]
  cf := some (fileOf pool5 1 #[] #[] 1537 3 #[] #[])
  fields := #[]
  methods := #[]
  instanceTypes := #[]
  staticTypes := #[]
  resolved := Array.replicate 12 none
  statics := none }

def pool6 : Array CpInfo := pool [(2, .class_ 4), (1, u "java/lang/CharSequence"), (42, .class_ 48), (0, u "java/lang/CharSequence$1CodePointIterator"), (10, .class_ 60), (0, u "java/lang/CharSequence$1CharIterator"), (5, .class_ 67), (0, u "java/lang/Object")] 63

/-- java/lang/CharSequence -/
def k6 : Class := { plain "java/lang/CharSequence" (some 0) with
  accessFlags := 1537
  interfaces := #[]
  cf := some (fileOf pool6 2 #[.nestMembers #[47, 59]] #[] 1537 66 #[] #[])
  fields := #[]
  methods := #[]
  instanceTypes := #[]
  staticTypes := #[]
  resolved := Array.replicate 131 none
  statics := none }

def pool7 : Array CpInfo := pool [(1, .class_ 2), (0, u "java/lang/constant/Constable"), (0, .class_ 4), (0, u "java/lang/Object")] 6

/-- java/lang/constant/Constable -/
def k7 : Class := { plain "java/lang/constant/Constable" (some 0) with
  accessFlags := 1537
  interfaces := #[]
  cf := some (fileOf pool7 1 #[] #[] 1537 3 #[] #[])
  fields := #[]
  methods := #[]
  instanceTypes := #[]
  staticTypes := #[]
  resolved := Array.replicate 11 none
  statics := none }

def pool8 : Array CpInfo := pool [(1, .class_ 2), (0, u "java/lang/constant/ConstantDesc"), (0, .class_ 4), (0, u "java/lang/Object")] 32

/-- java/lang/constant/ConstantDesc -/
def k8 : Class := { plain "java/lang/constant/ConstantDesc" (some 0) with
  accessFlags := 1537
  interfaces := #[]
  cf := some (fileOf pool8 1 #[] #[] 1537 3 #[] #[])
  fields := #[]
  methods := #[]
  instanceTypes := #[]
  staticTypes := #[]
  resolved := Array.replicate 37 none
  statics := none }

def pool9 : Array CpInfo := pool [(1, .methodref 2 3), (0, .class_ 4), (0, .nameAndType 5 6), (0, u "java/lang/Object"), (0, u "<init>"), (0, u "()V"), (2, .fieldref 10 11), (0, .class_ 12), (0, .nameAndType 13 14), (0, u "java/lang/String"), (0, u "value"), (0, u "[B"), (0, .fieldref 10 16), (0, .nameAndType 17 18), (0, u "coder"), (0, u "B"), (2, u "hash"), (0, u "I"), (2, u "hashIsZero"), (0, u "Z"), (0, .methodref 10 28), (0, .nameAndType 5 29), (0, u "([CIILjava/lang/Void;)V"), (8, .fieldref 10 39), (0, .nameAndType 40 26), (0, u "COMPACT_STRINGS"), (1, .class_ 44), (1, u "java/lang/StringUTF16"), (0, u "compress"), (1, .methodref 42 48), (0, .nameAndType 49 50), (0, u "coderFromArrayLen"), (0, u "([BI)B"), (56, .class_ 109), (1, u "java/lang/StringLatin1"), (67, .methodref 42 178), (0, .nameAndType 45 179), (0, u "([CII)[B"), (361, .methodref 107 542), (0, .nameAndType 543 544), (0, u "equals"), (0, u "([B[B)Z"), (28, u "(Ljava/lang/Object;)Z"), (1, .class_ 576), (0, u "java/lang/CharSequence"), (22, u "CASE_INSENSITIVE_ORDER"), (0, u "Ljava/util/Comparator;"), (409, u "([C)V"), (90, u "serialPersistentFields"), (0, u "[Ljava/io/ObjectStreamField;"), (0, .class_ 1104), (0, u "java/lang/String$CaseInsensitiveComparator"), (1, .class_ 1107), (0, u "java/io/Serializable"), (0, .class_ 1109), (0, u "java/lang/Comparable"), (0, .class_ 1111), (0, u "java/lang/constant/Constable"), (0, .class_ 1113), (0, u "java/lang/constant/ConstantDesc"), (2, u "serialVersionUID"), (0, u "J"), (3, u "REPL"), (0, u "C"), (2, u "LATIN1"), (1, u "UTF16")] 323

def k9m0 : Method := { name := "<init>", desc := "()V", sig := { parameters := [], returnType := none }, accessFlags := 1, code := none }
def k9c1 : Code := { maxStack := 5, maxLocals := 2, code := jdk_42_method_3_code, exceptionTable := #[], attributes := #[] }
def k9m1 : Method := { name := "<init>", desc := "([C)V", sig := { parameters := [(.array .char)], returnType := none }, accessFlags := 1, code := some k9c1 }
def k9c2 : Code := { maxStack := 2, maxLocals := 3, code := jdk_42_method_66_code, exceptionTable := #[], attributes := #[] }
def k9m2 : Method := { name := "equals", desc := "(Ljava/lang/Object;)Z", sig := { parameters := [(.object "java/lang/Object")], returnType := some .boolean }, accessFlags := 1, code := some k9c2 }
def k9c3 : Code := { maxStack := 4, maxLocals := 6, code := jdk_42_method_149_code, exceptionTable := #[], attributes := #[] }
def k9m3 : Method := { name := "<init>", desc := "([CIILjava/lang/Void;)V", sig := { parameters := [(.array .char), .int, .int, (.object "java/lang/Void")], returnType := none }, accessFlags := 2, code := some k9c3 }
/-- java/lang/String -/
def k9 : Class := { plain "java/lang/String" (some 0) with
  accessFlags := 49
  interfaces := #[4, 5, 6, 7, 8]
  cf := some (fileOf pool9 10 #[.nestMembers #[1103]] #[{ accessFlags := 1, nameIndex := 5, descriptorIndex := 6, attributes := #[] }, { accessFlags := 1, nameIndex := 5, descriptorIndex := 1010, attributes := #[] }, { accessFlags := 1, nameIndex := 543, descriptorIndex := 573, attributes := #[] }, { accessFlags := 2, nameIndex := 5, descriptorIndex := 29, attributes := #[] }] 49 2 #[1106, 1108, 575, 1110, 1112] #[{ accessFlags := 18, nameIndex := 13, descriptorIndex := 14, attributes := #[] }, { accessFlags := 18, nameIndex := 17, descriptorIndex := 18, attributes := #[] }, { accessFlags := 2, nameIndex := 21, descriptorIndex := 22, attributes := #[] }, { accessFlags := 2, nameIndex := 25, descriptorIndex := 26, attributes := #[] }, { accessFlags := 26, nameIndex := 1116, descriptorIndex := 1117, attributes := #[] }, { accessFlags := 24, nameIndex := 40, descriptorIndex := 26, attributes := #[] }, { accessFlags := 26, nameIndex := 1101, descriptorIndex := 1102, attributes := #[] }, { accessFlags := 26, nameIndex := 1121, descriptorIndex := 1122, attributes := #[] }, { accessFlags := 25, nameIndex := 599, descriptorIndex := 600, attributes := #[] }, { accessFlags := 24, nameIndex := 1125, descriptorIndex := 18, attributes := #[] }, { accessFlags := 24, nameIndex := 1127, descriptorIndex := 18, attributes := #[] }])
  fields := #[{ name := "value", type := (.array .byte), accessFlags := 18, slot := 0, constantValue := 0 }, { name := "coder", type := .byte, accessFlags := 18, slot := 1, constantValue := 0 }, { name := "hash", type := .int, accessFlags := 2, slot := 2, constantValue := 0 }, { name := "hashIsZero", type := .boolean, accessFlags := 2, slot := 3, constantValue := 0 }, { name := "serialVersionUID", type := .long, accessFlags := 26, slot := 0, constantValue := 0 }, { name := "COMPACT_STRINGS", type := .boolean, accessFlags := 24, slot := 1, constantValue := 0 }, { name := "serialPersistentFields", type := (.array (.object "java/io/ObjectStreamField")), accessFlags := 26, slot := 2, constantValue := 0 }, { name := "REPL", type := .char, accessFlags := 26, slot := 3, constantValue := 0 }, { name := "CASE_INSENSITIVE_ORDER", type := (.object "java/util/Comparator"), accessFlags := 25, slot := 4, constantValue := 0 }, { name := "LATIN1", type := .byte, accessFlags := 24, slot := 5, constantValue := 0 }, { name := "UTF16", type := .byte, accessFlags := 24, slot := 6, constantValue := 0 }]
  methods := #[k9m0, k9m1, k9m2, k9m3]
  instanceTypes := #[(.array .byte), .byte, .int, .boolean]
  staticTypes := #[.long, .boolean, (.array (.object "java/io/ObjectStreamField")), .char, (.object "java/util/Comparator"), .byte, .byte]
  resolved := Array.replicate 1451 none
  statics := some 0 }

def pool10 : Array CpInfo := pool [(6, .class_ 8), (1, u "java/lang/Object"), (0, u "<init>"), (0, u "()V"), (1, .class_ 14), (1, u "java/lang/StringUTF16"), (31, u "$assertionsDisabled"), (0, u "Z"), (13, u "HI_BYTE_SHIFT"), (0, u "I"), (2, u "LO_BYTE_SHIFT"), (49, .methodref 12 116), (0, .nameAndType 117 118), (0, u "compress"), (0, u "([CI[BII)I"), (3, u "([CII)[B"), (138, u "coderFromArrayLen"), (0, u "([BI)B"), (106, .class_ 371), (1, u "java/lang/StringUTF16$LinesSpliterator"), (58, u "MAX_LENGTH"), (196, .class_ 628), (0, u "java/lang/StringUTF16$CodePointsSpliterator"), (0, .class_ 630), (0, u "java/lang/StringUTF16$CharsSpliterator")] 4

def k10m0 : Method := { name := "<init>", desc := "()V", sig := { parameters := [], returnType := none }, accessFlags := 0, code := none }
def k10c1 : Code := { maxStack := 2, maxLocals := 2, code := jdk_52_method_15_code, exceptionTable := #[], attributes := #[] }
def k10m1 : Method := { name := "coderFromArrayLen", desc := "([BI)B", sig := { parameters := [(.array .byte), .int], returnType := some .byte }, accessFlags := 8, code := some k10c1 }
def k10c2 : Code := { maxStack := 5, maxLocals := 6, code := jdk_52_method_16_code, exceptionTable := #[], attributes := #[] }
def k10m2 : Method := { name := "compress", desc := "([CII)[B", sig := { parameters := [(.array .char), .int, .int], returnType := some (.array .byte) }, accessFlags := 9, code := some k10c2 }
def k10c3 : Code := { maxStack := 3, maxLocals := 7, code := jdk_52_method_21_code, exceptionTable := #[], attributes := #[] }
def k10m3 : Method := { name := "compress", desc := "([CI[BII)I", sig := { parameters := [(.array .char), .int, (.array .byte), .int, .int], returnType := some .int }, accessFlags := 9, code := some k10c3 }
/-- java/lang/StringUTF16 -/
def k10 : Class := { plain "java/lang/StringUTF16" (some 0) with
  accessFlags := 48
  interfaces := #[]
  cf := some (fileOf pool10 12 #[.nestMembers #[627, 629, 369]] #[{ accessFlags := 0, nameIndex := 9, descriptorIndex := 10, attributes := #[] }, { accessFlags := 8, nameIndex := 261, descriptorIndex := 262, attributes := #[] }, { accessFlags := 9, nameIndex := 117, descriptorIndex := 122, attributes := #[] }, { accessFlags := 9, nameIndex := 117, descriptorIndex := 118, attributes := #[] }] 48 6 #[] #[{ accessFlags := 26, nameIndex := 61, descriptorIndex := 62, attributes := #[] }, { accessFlags := 26, nameIndex := 65, descriptorIndex := 62, attributes := #[] }, { accessFlags := 24, nameIndex := 430, descriptorIndex := 62, attributes := #[] }, { accessFlags := 4120, nameIndex := 46, descriptorIndex := 47, attributes := #[] }])
  fields := #[{ name := "HI_BYTE_SHIFT", type := .int, accessFlags := 26, slot := 0, constantValue := 0 }, { name := "LO_BYTE_SHIFT", type := .int, accessFlags := 26, slot := 1, constantValue := 0 }, { name := "MAX_LENGTH", type := .int, accessFlags := 24, slot := 2, constantValue := 0 }, { name := "$assertionsDisabled", type := .boolean, accessFlags := 4120, slot := 3, constantValue := 0 }]
  methods := #[k10m0, k10m1, k10m2, k10m3]
  instanceTypes := #[]
  staticTypes := #[.int, .int, .int, .boolean]
  resolved := Array.replicate 635 none
  statics := none }

def pool11 : Array CpInfo := pool [(2, .class_ 4), (1, u "java/lang/Object"), (0, u "<init>"), (0, u "()V"), (35, .class_ 44), (1, u "java/util/Objects"), (0, u "requireNonNull"), (48, u "(Ljava/lang/Object;Ljava/lang/String;)Ljava/lang/Object;")] 89

def k11m0 : Method := { name := "<init>", desc := "()V", sig := { parameters := [], returnType := none }, accessFlags := 2, code := none }
def k11c1 : Code := { maxStack := 3, maxLocals := 2, code := jdk_31_method_11_code, exceptionTable := #[], attributes := #[] }
def k11m1 : Method := { name := "requireNonNull", desc := "(Ljava/lang/Object;Ljava/lang/String;)Ljava/lang/Object;", sig := { parameters := [(.object "java/lang/Object"), (.object "java/lang/String")], returnType := some (.object "java/lang/Object") }, accessFlags := 9, code := some k11c1 }
/-- java/util/Objects -/
def k11 : Class := { plain "java/util/Objects" (some 0) with
  accessFlags := 49
  interfaces := #[]
  cf := some (fileOf pool11 42 #[] #[{ accessFlags := 2, nameIndex := 5, descriptorIndex := 6, attributes := #[] }, { accessFlags := 9, nameIndex := 45, descriptorIndex := 94, attributes := #[] }] 49 2 #[] #[])
  fields := #[]
  methods := #[k11m0, k11m1]
  instanceTypes := #[]
  staticTypes := #[]
  resolved := Array.replicate 184 none
  statics := none }

def pool12 : Array CpInfo := pool [(1, .methodref 2 3), (0, .class_ 4), (0, .nameAndType 5 6), (0, u "java/lang/Object"), (0, u "<init>"), (0, u "()V"), (0, .string 8), (0, u "subClass"), (0, .methodref 10 11), (0, .class_ 12), (0, .nameAndType 13 14), (0, u "java/util/Objects"), (0, u "requireNonNull"), (0, u "(Ljava/lang/Object;Ljava/lang/String;)Ljava/lang/Object;"), (0, .class_ 16), (0, u "java/lang/String"), (0, .fieldref 18 19), (0, .class_ 20), (0, .nameAndType 8 21), (0, u "com/example/sure_paths/surepaths/model/ClassToExistential"), (0, u "Ljava/lang/String;"), (0, .string 23), (0, u "property"), (0, .fieldref 18 25), (0, .nameAndType 23 21), (0, .string 27), (0, u "filler"), (0, .fieldref 18 29), (0, .nameAndType 27 21), (12, .class_ 43), (0, u "com/example/sure_paths/surepaths/model/NormalForm"), (0, u "(Ljava/lang/String;Ljava/lang/String;Ljava/lang/String;)V")] 27

def k12c0 : Code := { maxStack := 3, maxLocals := 4, code := prog_32_method_1_code, exceptionTable := #[], attributes := #[] }
def k12m0 : Method := { name := "<init>", desc := "(Ljava/lang/String;Ljava/lang/String;Ljava/lang/String;)V", sig := { parameters := [(.object "java/lang/String"), (.object "java/lang/String"), (.object "java/lang/String")], returnType := none }, accessFlags := 1, code := some k12c0 }
/-- com/example/sure_paths/surepaths/model/ClassToExistential -/
def k12 : Class := { plain "com/example/sure_paths/surepaths/model/ClassToExistential" (some 0) with
  accessFlags := 49
  interfaces := #[2]
  cf := some (fileOf pool12 18 #[] #[{ accessFlags := 1, nameIndex := 5, descriptorIndex := 44, attributes := #[] }] 49 2 #[42] #[{ accessFlags := 18, nameIndex := 8, descriptorIndex := 21, attributes := #[] }, { accessFlags := 18, nameIndex := 23, descriptorIndex := 21, attributes := #[] }, { accessFlags := 18, nameIndex := 27, descriptorIndex := 21, attributes := #[] }])
  fields := #[{ name := "subClass", type := (.object "java/lang/String"), accessFlags := 18, slot := 0, constantValue := 0 }, { name := "property", type := (.object "java/lang/String"), accessFlags := 18, slot := 1, constantValue := 0 }, { name := "filler", type := (.object "java/lang/String"), accessFlags := 18, slot := 2, constantValue := 0 }]
  methods := #[k12m0]
  instanceTypes := #[(.object "java/lang/String"), (.object "java/lang/String"), (.object "java/lang/String")]
  staticTypes := #[]
  resolved := Array.replicate 72 none
  statics := none }

def pool13 : Array CpInfo := pool [(4, .class_ 6), (1, u "java/lang/Object"), (0, u "<init>"), (0, u "()V"), (5, .class_ 16), (1, u "java/lang/StringLatin1"), (104, u "$assertionsDisabled"), (0, u "Z"), (98, .class_ 223), (1, u "java/lang/StringLatin1$LinesSpliterator"), (57, u "equals"), (0, u "([B[B)Z"), (107, .class_ 391), (0, u "java/lang/StringLatin1$CharsSpliterator")] 3

def k13m0 : Method := { name := "<init>", desc := "()V", sig := { parameters := [], returnType := none }, accessFlags := 0, code := none }
def k13c1 : Code := { maxStack := 3, maxLocals := 3, code := jdk_43_method_13_code, exceptionTable := #[], attributes := #[] }
def k13m1 : Method := { name := "equals", desc := "([B[B)Z", sig := { parameters := [(.array .byte), (.array .byte)], returnType := some .boolean }, accessFlags := 9, code := some k13c1 }
/-- java/lang/StringLatin1 -/
def k13 : Class := { plain "java/lang/StringLatin1" (some 0) with
  accessFlags := 48
  interfaces := #[]
  cf := some (fileOf pool13 14 #[.nestMembers #[390, 221]] #[{ accessFlags := 0, nameIndex := 7, descriptorIndex := 8, attributes := #[] }, { accessFlags := 9, nameIndex := 281, descriptorIndex := 282, attributes := #[] }] 48 4 #[] #[{ accessFlags := 4120, nameIndex := 121, descriptorIndex := 122, attributes := #[] }])
  fields := #[{ name := "$assertionsDisabled", type := .boolean, accessFlags := 4120, slot := 0, constantValue := 0 }]
  methods := #[k13m0, k13m1]
  instanceTypes := #[]
  staticTypes := #[.boolean]
  resolved := Array.replicate 395 none
  statics := none }

def pool14 : Array CpInfo := pool [(2, .class_ 4), (1, u "java/lang/Object"), (0, u "<init>"), (0, u "()V"), (17, .class_ 26), (1, u "jdk/internal/util/Preconditions"), (28, .class_ 56), (0, u "jdk/internal/util/Preconditions$4"), (57, .class_ 115), (0, u "jdk/internal/util/Preconditions$1"), (7, u "SIOOBE_FORMATTER"), (0, u "Ljava/util/function/BiFunction;"), (0, .class_ 126), (0, u "jdk/internal/util/Preconditions$2"), (3, u "AIOOBE_FORMATTER"), (0, .class_ 132), (0, u "jdk/internal/util/Preconditions$3"), (3, u "IOOBE_FORMATTER")] 57

def k14m0 : Method := { name := "<init>", desc := "()V", sig := { parameters := [], returnType := none }, accessFlags := 1, code := none }
/-- jdk/internal/util/Preconditions -/
def k14 : Class := { plain "jdk/internal/util/Preconditions" (some 0) with
  accessFlags := 33
  interfaces := #[]
  cf := some (fileOf pool14 24 #[.nestMembers #[55, 131, 125, 114]] #[{ accessFlags := 1, nameIndex := 5, descriptorIndex := 6, attributes := #[] }] 33 2 #[] #[{ accessFlags := 25, nameIndex := 123, descriptorIndex := 124, attributes := #[] }, { accessFlags := 25, nameIndex := 130, descriptorIndex := 124, attributes := #[] }, { accessFlags := 25, nameIndex := 136, descriptorIndex := 124, attributes := #[] }])
  fields := #[{ name := "SIOOBE_FORMATTER", type := (.object "java/util/function/BiFunction"), accessFlags := 25, slot := 0, constantValue := 0 }, { name := "AIOOBE_FORMATTER", type := (.object "java/util/function/BiFunction"), accessFlags := 25, slot := 1, constantValue := 0 }, { name := "IOOBE_FORMATTER", type := (.object "java/util/function/BiFunction"), accessFlags := 25, slot := 2, constantValue := 0 }]
  methods := #[k14m0]
  instanceTypes := #[]
  staticTypes := #[(.object "java/util/function/BiFunction"), (.object "java/util/function/BiFunction"), (.object "java/util/function/BiFunction")]
  resolved := Array.replicate 194 none
  statics := some 1 }

def pool15 : Array CpInfo := pool [(9, u "<init>"), (6, .class_ 18), (1, u "java/lang/Object"), (0, u "()V"), (1, .class_ 23), (1, u "jdk/internal/util/ArraysSupport"), (0, u "LOG2_ARRAY_LONG_INDEX_SCALE"), (0, u "I"), (2, u "U"), (0, u "Ljdk/internal/misc/Unsafe;"), (8, u "BIG_ENDIAN"), (0, u "Z"), (8, u "LOG2_BYTE_BIT_SIZE"), (4, u "LOG2_ARRAY_INT_INDEX_SCALE"), (54, u "JLA"), (0, u "Ljdk/internal/access/JavaLangAccess;"), (11, u "LOG2_ARRAY_BOOLEAN_INDEX_SCALE"), (9, u "LOG2_ARRAY_BYTE_INDEX_SCALE"), (5, u "LOG2_ARRAY_CHAR_INDEX_SCALE"), (5, u "LOG2_ARRAY_SHORT_INDEX_SCALE"), (18, u "LOG2_ARRAY_FLOAT_INDEX_SCALE"), (24, u "LOG2_ARRAY_DOUBLE_INDEX_SCALE"), (89, u "T_BOOLEAN"), (2, u "T_CHAR"), (1, u "T_FLOAT"), (1, u "T_DOUBLE"), (1, u "T_BYTE"), (1, u "T_SHORT"), (1, u "T_INT"), (1, u "T_LONG"), (1, u "SOFT_MAX_ARRAY_LENGTH")] 83

def k15m0 : Method := { name := "<init>", desc := "()V", sig := { parameters := [], returnType := none }, accessFlags := 2, code := none }
/-- jdk/internal/util/ArraysSupport -/
def k15 : Class := { plain "jdk/internal/util/ArraysSupport" (some 0) with
  accessFlags := 33
  interfaces := #[]
  cf := some (fileOf pool15 21 #[] #[{ accessFlags := 2, nameIndex := 9, descriptorIndex := 19, attributes := #[] }] 33 16 #[] #[{ accessFlags := 24, nameIndex := 28, descriptorIndex := 29, attributes := #[] }, { accessFlags := 26, nameIndex := 38, descriptorIndex := 39, attributes := #[] }, { accessFlags := 25, nameIndex := 121, descriptorIndex := 25, attributes := #[] }, { accessFlags := 25, nameIndex := 131, descriptorIndex := 25, attributes := #[] }, { accessFlags := 25, nameIndex := 137, descriptorIndex := 25, attributes := #[] }, { accessFlags := 25, nameIndex := 143, descriptorIndex := 25, attributes := #[] }, { accessFlags := 25, nameIndex := 53, descriptorIndex := 25, attributes := #[] }, { accessFlags := 25, nameIndex := 24, descriptorIndex := 25, attributes := #[] }, { accessFlags := 25, nameIndex := 162, descriptorIndex := 25, attributes := #[] }, { accessFlags := 25, nameIndex := 187, descriptorIndex := 25, attributes := #[] }, { accessFlags := 26, nameIndex := 48, descriptorIndex := 25, attributes := #[] }, { accessFlags := 25, nameIndex := 277, descriptorIndex := 25, attributes := #[] }, { accessFlags := 25, nameIndex := 280, descriptorIndex := 25, attributes := #[] }, { accessFlags := 25, nameIndex := 282, descriptorIndex := 25, attributes := #[] }, { accessFlags := 25, nameIndex := 284, descriptorIndex := 25, attributes := #[] }, { accessFlags := 25, nameIndex := 286, descriptorIndex := 25, attributes := #[] }, { accessFlags := 25, nameIndex := 288, descriptorIndex := 25, attributes := #[] }, { accessFlags := 25, nameIndex := 290, descriptorIndex := 25, attributes := #[] }, { accessFlags := 25, nameIndex := 292, descriptorIndex := 25, attributes := #[] }, { accessFlags := 26, nameIndex := 108, descriptorIndex := 109, attributes := #[] }, { accessFlags := 25, nameIndex := 294, descriptorIndex := 25, attributes := #[] }])
  fields := #[{ name := "U", type := (.object "jdk/internal/misc/Unsafe"), accessFlags := 24, slot := 0, constantValue := 0 }, { name := "BIG_ENDIAN", type := .boolean, accessFlags := 26, slot := 1, constantValue := 0 }, { name := "LOG2_ARRAY_BOOLEAN_INDEX_SCALE", type := .int, accessFlags := 25, slot := 2, constantValue := 0 }, { name := "LOG2_ARRAY_BYTE_INDEX_SCALE", type := .int, accessFlags := 25, slot := 3, constantValue := 0 }, { name := "LOG2_ARRAY_CHAR_INDEX_SCALE", type := .int, accessFlags := 25, slot := 4, constantValue := 0 }, { name := "LOG2_ARRAY_SHORT_INDEX_SCALE", type := .int, accessFlags := 25, slot := 5, constantValue := 0 }, { name := "LOG2_ARRAY_INT_INDEX_SCALE", type := .int, accessFlags := 25, slot := 6, constantValue := 0 }, { name := "LOG2_ARRAY_LONG_INDEX_SCALE", type := .int, accessFlags := 25, slot := 7, constantValue := 0 }, { name := "LOG2_ARRAY_FLOAT_INDEX_SCALE", type := .int, accessFlags := 25, slot := 8, constantValue := 0 }, { name := "LOG2_ARRAY_DOUBLE_INDEX_SCALE", type := .int, accessFlags := 25, slot := 9, constantValue := 0 }, { name := "LOG2_BYTE_BIT_SIZE", type := .int, accessFlags := 26, slot := 10, constantValue := 0 }, { name := "T_BOOLEAN", type := .int, accessFlags := 25, slot := 11, constantValue := 0 }, { name := "T_CHAR", type := .int, accessFlags := 25, slot := 12, constantValue := 0 }, { name := "T_FLOAT", type := .int, accessFlags := 25, slot := 13, constantValue := 0 }, { name := "T_DOUBLE", type := .int, accessFlags := 25, slot := 14, constantValue := 0 }, { name := "T_BYTE", type := .int, accessFlags := 25, slot := 15, constantValue := 0 }, { name := "T_SHORT", type := .int, accessFlags := 25, slot := 16, constantValue := 0 }, { name := "T_INT", type := .int, accessFlags := 25, slot := 17, constantValue := 0 }, { name := "T_LONG", type := .int, accessFlags := 25, slot := 18, constantValue := 0 }, { name := "JLA", type := (.object "jdk/internal/access/JavaLangAccess"), accessFlags := 26, slot := 19, constantValue := 0 }, { name := "SOFT_MAX_ARRAY_LENGTH", type := .int, accessFlags := 25, slot := 20, constantValue := 0 }]
  methods := #[k15m0]
  instanceTypes := #[]
  staticTypes := #[(.object "jdk/internal/misc/Unsafe"), .boolean, .int, .int, .int, .int, .int, .int, .int, .int, .int, .int, .int, .int, .int, .int, .int, .int, .int, (.object "jdk/internal/access/JavaLangAccess"), .int]
  resolved := Array.replicate 378 none
  statics := none }

def pool16 : Array CpInfo := pool [(1, u "java/lang/Cloneable"), (0, .class_ 1), (0, u "java/lang/Object"), (0, .class_ 3)] 3

/-- java/lang/Cloneable -/
def k16 : Class := { plain "java/lang/Cloneable" (some 0) with
  accessFlags := 1537
  interfaces := #[]
  cf := some (fileOf pool16 2 #[] #[] 1537 4 #[] #[])
  fields := #[]
  methods := #[]
  instanceTypes := #[]
  staticTypes := #[]
  resolved := Array.replicate 8 none
  statics := none }

/-- the primitive byte -/
def k17 : Class := { plain "byte" none with kind := .primitive 'B', accessFlags := 0x411 }
/-- [B -/
def k18 : Class := { plain "[B" (some 0) with kind := .array 17 .byte, interfaces := #[16, 4], accessFlags := 1041 }

/-- the primitive char -/
def k19 : Class := { plain "char" none with kind := .primitive 'C', accessFlags := 0x411 }
/-- [C -/
def k20 : Class := { plain "[C" (some 0) with kind := .array 19 .char, interfaces := #[16, 4], accessFlags := 1041 }

/-- the primitive int -/
def k21 : Class := { plain "int" none with kind := .primitive 'I', accessFlags := 0x411 }
/-- [I -/
def k22 : Class := { plain "[I" (some 0) with kind := .array 21 .int, interfaces := #[16, 4], accessFlags := 1041 }

def heap : Heap := #[{ cls := 9, slots := #[.long 0, .int 1, .null, .int 0, .null, .int 0, .int 0], vm := .statics 9 },
  { cls := 14, slots := #[.null, .null, .null], vm := .statics 14 }]
def classes : Array Class := #[k0, k1, k2, k3, k4, k5, k6, k7, k8, k9, k10, k11, k12, k13, k14, k15, k16, k17, k18, k19, k20, k21, k22]
def interned : List (Array UInt16 × Addr) := []
def slotsUsed : Nat := 10
def theMethod : MethodId := ⟨1, 6⟩
def args0 : Array Value := #[.int 5, .int 6, .int 7, .int 1]
def aboutOver (below : List Frame) : State where
  vm := { classes := classes, interned := interned.toArray }
  heap := heap
  slotsUsed := slotsUsed
  threads := #[{ frames := .invoking theMethod args0 :: below }]
def below0 : List Frame := [.native { method := ⟨0, 0⟩, args := #[] }]
def about1 : State := aboutOver below0
def p0 : Program := .bare "" "" ""
def e0 : Env := launch0.env 0 0 0
theorem w_frames : about1.frames = Frame.invoking theMethod args0 :: below0 := rfl
set_option maxRecDepth 65536 in
theorem w_args : argsFit about1.vm theMethod args0 = true := by decide +kernel
set_option maxRecDepth 65536 in
theorem w_heap : heapFits about1 = true := by decide +kernel
set_option maxRecDepth 65536 in
theorem w_runnable : about1.curStatus? = some .runnable := by decide +kernel
set_option maxRecDepth 65536 in
theorem w_alone : about1.alone = true := by decide +kernel
set_option maxRecDepth 65536 in
theorem w_named : about1.methodNamed? x = some theMethod := by decide +kernel
set_option maxRecDepth 65536 in
theorem w_hears : about1.hears theMethod below0 = true := by decide +kernel
set_option maxRecDepth 65536 in
theorem w_ripe : about1.ripe theMethod args0 below0 = true := by decide +kernel
theorem w_running : about1.status = .running := rfl
set_option maxRecDepth 65536 in
theorem w_room : about1.hasRoom e0.platform room_1 = true :=
  launch0.hasRoom_least _ room_1 (by decide +kernel) (by decide +kernel) (by decide +kernel) (by decide +kernel) (by decide +kernel) (by decide +kernel)
theorem allAtoms_all (ts : List Jvm.Cond) (a : Array Jvm.Value) (st : Jvm.State) : (allAtoms ts).before a st = ts.all (fun c => c.before a st) := by
  induction ts with
  | nil => rfl
  | cons c t ih =>
    show (Jvm.Cond.and c (allAtoms t)).before a st = _
    rw [Jvm.Cond.before_and, ih, List.all_cons]
def words1 : List Jvm.Cond := Jvm.Cond.code x code maxLocals ret :: tables_1
/-- a 'code' word, met by the world's own term for the bytes: nothing is compared byte by byte -/
theorem code_word {y : MethodName} {bytes : ByteArray} {mx : Nat} {rt : Option FieldType} {a : Array Value} {s : State} {m : MethodId} {meth : Method} {c : Code} (h1 : s.methodNamed? y = some m) (h2 : s.vm.method? m = some meth) (h3 : meth.code = some c) (h4 : c.code = bytes)
    (h5 : (c.maxLocals == mx && c.exceptionTable.isEmpty && decide (c.maxStack ≤ mostOperands) && decide (meth.sig.returnType = rt) && !meth.locks && decide (parseMethodDescriptor y.desc = some meth.sig)) = true) : (Jvm.Cond.code y bytes mx rt).before a s = true := by
  simp only [Bool.and_eq_true, beq_iff_eq, Bool.not_eq_true', decide_eq_true_eq] at h5
  obtain ⟨⟨⟨⟨⟨g1, g2⟩, g3⟩, g4⟩, g5⟩, g6⟩ := h5
  simp [Cond.before, Cond.holds, Cond.value, h1, h2, h3, h4, g1, g2, g3, g4, g5, g6]
def isCode : Jvm.Cond → Bool
  | .code _ _ _ _ => true
  | _ => false
theorem all_split {L : List Jvm.Cond} {P : Jvm.Cond → Bool} (h1 : L.all (fun c => isCode c || P c) = true) (h2 : ∀ c ∈ L.filter isCode, P c = true) : L.all P = true := by
  refine List.all_eq_true.mpr fun c hc => ?_
  have h := List.all_eq_true.mp h1 c hc
  rcases Bool.eq_false_or_eq_true (isCode c) with hi | hi
  · exact h2 c (List.mem_filter.mpr ⟨hc, hi⟩)
  · simpa [hi] using h
set_option maxRecDepth 65536 in
theorem w_c0 : (Jvm.Cond.code x code maxLocals ret).before args0 about1 = true := code_word (m := ⟨1, 6⟩) (meth := k1m6) (c := k1c6) (by decide +kernel) rfl rfl rfl (by decide +kernel)
set_option maxRecDepth 65536 in
theorem w_c1 : (Jvm.Cond.code ({ cls := "com/example/sure_paths/surepaths/model/ExistentialToClassEqualsPinLaw", name := "mine", desc := "(I)Ljava/lang/String;" } : Jvm.MethodName) method_4_code (1 : Nat) (Option.some (Jvm.ClassFile.FieldType.object "java/lang/String"))).before args0 about1 = true := code_word (m := ⟨1, 3⟩) (meth := k1m3) (c := k1c3) (by decide +kernel) rfl rfl rfl (by decide +kernel)
set_option maxRecDepth 65536 in
theorem w_c2 : (Jvm.Cond.code ({ cls := "com/example/sure_paths/surepaths/model/ExistentialToClassEqualsPinLaw", name := "one", desc := "(C)Ljava/lang/String;" } : Jvm.MethodName) method_2_code (1 : Nat) (Option.some (Jvm.ClassFile.FieldType.object "java/lang/String"))).before args0 about1 = true := code_word (m := ⟨1, 1⟩) (meth := k1m1) (c := k1c1) (by decide +kernel) rfl rfl rfl (by decide +kernel)
set_option maxRecDepth 65536 in
theorem w_c3 : (Jvm.Cond.code ({ cls := "java/lang/String", name := "<init>", desc := "([C)V" } : Jvm.MethodName) jdk_42_method_3_code (2 : Nat) (Option.none : Option Jvm.ClassFile.FieldType)).before args0 about1 = true := code_word (m := ⟨9, 1⟩) (meth := k9m1) (c := k9c1) (by decide +kernel) rfl rfl rfl (by decide +kernel)
set_option maxRecDepth 65536 in
theorem w_c4 : (Jvm.Cond.code ({ cls := "java/lang/String", name := "<init>", desc := "([CIILjava/lang/Void;)V" } : Jvm.MethodName) jdk_42_method_149_code (6 : Nat) (Option.none : Option Jvm.ClassFile.FieldType)).before args0 about1 = true := code_word (m := ⟨9, 3⟩) (meth := k9m3) (c := k9c3) (by decide +kernel) rfl rfl rfl (by decide +kernel)
set_option maxRecDepth 65536 in
theorem w_c5 : (Jvm.Cond.code ({ cls := "java/lang/Object", name := "<init>", desc := "()V" } : Jvm.MethodName) object_method_1_code (1 : Nat) (Option.none : Option Jvm.ClassFile.FieldType)).before args0 about1 = true := code_word (m := ⟨0, 0⟩) (meth := k0m0) (c := k0c0) (by decide +kernel) rfl rfl rfl (by decide +kernel)
set_option maxRecDepth 65536 in
theorem w_c6 : (Jvm.Cond.code ({ cls := "java/lang/StringUTF16", name := "compress", desc := "([CII)[B" } : Jvm.MethodName) jdk_52_method_16_code (6 : Nat) (Option.some (Jvm.ClassFile.FieldType.array Jvm.ClassFile.FieldType.byte))).before args0 about1 = true := code_word (m := ⟨10, 2⟩) (meth := k10m2) (c := k10c2) (by decide +kernel) rfl rfl rfl (by decide +kernel)
set_option maxRecDepth 65536 in
theorem w_c7 : (Jvm.Cond.code ({ cls := "java/lang/StringUTF16", name := "compress", desc := "([CI[BII)I" } : Jvm.MethodName) jdk_52_method_21_code (7 : Nat) (Option.some Jvm.ClassFile.FieldType.int)).before args0 about1 = true := code_word (m := ⟨10, 3⟩) (meth := k10m3) (c := k10c3) (by decide +kernel) rfl rfl rfl (by decide +kernel)
set_option maxRecDepth 65536 in
theorem w_c8 : (Jvm.Cond.code ({ cls := "java/lang/StringUTF16", name := "coderFromArrayLen", desc := "([BI)B" } : Jvm.MethodName) jdk_52_method_15_code (2 : Nat) (Option.some Jvm.ClassFile.FieldType.byte)).before args0 about1 = true := code_word (m := ⟨10, 1⟩) (meth := k10m1) (c := k10c1) (by decide +kernel) rfl rfl rfl (by decide +kernel)
set_option maxRecDepth 65536 in
theorem w_c9 : (Jvm.Cond.code ({ cls := "com/example/sure_paths/surepaths/model/ExistentialToClass", name := "<init>", desc := "(Ljava/lang/String;Ljava/lang/String;Ljava/lang/String;)V" } : Jvm.MethodName) prog_36_method_1_code (4 : Nat) (Option.none : Option Jvm.ClassFile.FieldType)).before args0 about1 = true := code_word (m := ⟨3, 0⟩) (meth := k3m0) (c := k3c0) (by decide +kernel) rfl rfl rfl (by decide +kernel)
set_option maxRecDepth 65536 in
theorem w_c10 : (Jvm.Cond.code ({ cls := "java/util/Objects", name := "requireNonNull", desc := "(Ljava/lang/Object;Ljava/lang/String;)Ljava/lang/Object;" } : Jvm.MethodName) jdk_31_method_11_code (2 : Nat) (Option.some (Jvm.ClassFile.FieldType.object "java/lang/Object"))).before args0 about1 = true := code_word (m := ⟨11, 1⟩) (meth := k11m1) (c := k11c1) (by decide +kernel) rfl rfl rfl (by decide +kernel)
set_option maxRecDepth 65536 in
theorem w_c11 : (Jvm.Cond.code ({ cls := "com/example/sure_paths/surepaths/model/ExistentialToClass", name := "equals", desc := "(Ljava/lang/Object;)Z" } : Jvm.MethodName) prog_36_method_5_code (3 : Nat) (Option.some Jvm.ClassFile.FieldType.boolean)).before args0 about1 = true := code_word (m := ⟨3, 1⟩) (meth := k3m1) (c := k3c1) (by decide +kernel) rfl rfl rfl (by decide +kernel)
set_option maxRecDepth 65536 in
theorem w_c12 : (Jvm.Cond.code ({ cls := "com/example/sure_paths/surepaths/model/ClassToExistential", name := "<init>", desc := "(Ljava/lang/String;Ljava/lang/String;Ljava/lang/String;)V" } : Jvm.MethodName) prog_32_method_1_code (4 : Nat) (Option.none : Option Jvm.ClassFile.FieldType)).before args0 about1 = true := code_word (m := ⟨12, 0⟩) (meth := k12m0) (c := k12c0) (by decide +kernel) rfl rfl rfl (by decide +kernel)
set_option maxRecDepth 65536 in
theorem w_c13 : (Jvm.Cond.code ({ cls := "com/example/sure_paths/surepaths/model/ExistentialToClassEqualsPinLaw", name := "theirs", desc := "(I)Ljava/lang/String;" } : Jvm.MethodName) method_5_code (3 : Nat) (Option.some (Jvm.ClassFile.FieldType.object "java/lang/String"))).before args0 about1 = true := code_word (m := ⟨1, 4⟩) (meth := k1m4) (c := k1c4) (by decide +kernel) rfl rfl rfl (by decide +kernel)
set_option maxRecDepth 65536 in
theorem w_c14 : (Jvm.Cond.code ({ cls := "com/example/sure_paths/surepaths/model/ExistentialToClassEqualsPinLaw", name := "expectSame", desc := "(I)Z" } : Jvm.MethodName) method_6_code (1 : Nat) (Option.some Jvm.ClassFile.FieldType.boolean)).before args0 about1 = true := code_word (m := ⟨1, 5⟩) (meth := k1m5) (c := k1c5) (by decide +kernel) rfl rfl rfl (by decide +kernel)
set_option maxRecDepth 65536 in
theorem w_c15 : (Jvm.Cond.code ({ cls := "java/lang/String", name := "equals", desc := "(Ljava/lang/Object;)Z" } : Jvm.MethodName) jdk_42_method_66_code (3 : Nat) (Option.some Jvm.ClassFile.FieldType.boolean)).before args0 about1 = true := code_word (m := ⟨9, 2⟩) (meth := k9m2) (c := k9c2) (by decide +kernel) rfl rfl rfl (by decide +kernel)
set_option maxRecDepth 65536 in
theorem w_c16 : (Jvm.Cond.code ({ cls := "java/lang/StringLatin1", name := "equals", desc := "([B[B)Z" } : Jvm.MethodName) jdk_43_method_13_code (3 : Nat) (Option.some Jvm.ClassFile.FieldType.boolean)).before args0 about1 = true := code_word (m := ⟨13, 1⟩) (meth := k13m1) (c := k13c1) (by decide +kernel) rfl rfl rfl (by decide +kernel)
set_option maxRecDepth 65536 in
theorem w_c17 : (Jvm.Cond.code ({ cls := "com/example/sure_paths/surepaths/model/ExistentialToClassEqualsPinLaw", name := "two", desc := "(CC)Ljava/lang/String;" } : Jvm.MethodName) method_3_code (2 : Nat) (Option.some (Jvm.ClassFile.FieldType.object "java/lang/String"))).before args0 about1 = true := code_word (m := ⟨1, 2⟩) (meth := k1m2) (c := k1c2) (by decide +kernel) rfl rfl rfl (by decide +kernel)
def codes1 : List Jvm.Cond := [Jvm.Cond.code x code maxLocals ret, Jvm.Cond.code ({ cls := "com/example/sure_paths/surepaths/model/ExistentialToClassEqualsPinLaw", name := "mine", desc := "(I)Ljava/lang/String;" } : Jvm.MethodName) method_4_code (1 : Nat) (Option.some (Jvm.ClassFile.FieldType.object "java/lang/String")), Jvm.Cond.code ({ cls := "com/example/sure_paths/surepaths/model/ExistentialToClassEqualsPinLaw", name := "one", desc := "(C)Ljava/lang/String;" } : Jvm.MethodName) method_2_code (1 : Nat) (Option.some (Jvm.ClassFile.FieldType.object "java/lang/String")), Jvm.Cond.code ({ cls := "java/lang/String", name := "<init>", desc := "([C)V" } : Jvm.MethodName) jdk_42_method_3_code (2 : Nat) (Option.none : Option Jvm.ClassFile.FieldType), Jvm.Cond.code ({ cls := "java/lang/String", name := "<init>", desc := "([CIILjava/lang/Void;)V" } : Jvm.MethodName) jdk_42_method_149_code (6 : Nat) (Option.none : Option Jvm.ClassFile.FieldType), Jvm.Cond.code ({ cls := "java/lang/Object", name := "<init>", desc := "()V" } : Jvm.MethodName) object_method_1_code (1 : Nat) (Option.none : Option Jvm.ClassFile.FieldType), Jvm.Cond.code ({ cls := "java/lang/StringUTF16", name := "compress", desc := "([CII)[B" } : Jvm.MethodName) jdk_52_method_16_code (6 : Nat) (Option.some (Jvm.ClassFile.FieldType.array Jvm.ClassFile.FieldType.byte)), Jvm.Cond.code ({ cls := "java/lang/StringUTF16", name := "compress", desc := "([CI[BII)I" } : Jvm.MethodName) jdk_52_method_21_code (7 : Nat) (Option.some Jvm.ClassFile.FieldType.int), Jvm.Cond.code ({ cls := "java/lang/StringUTF16", name := "coderFromArrayLen", desc := "([BI)B" } : Jvm.MethodName) jdk_52_method_15_code (2 : Nat) (Option.some Jvm.ClassFile.FieldType.byte), Jvm.Cond.code ({ cls := "com/example/sure_paths/surepaths/model/ExistentialToClass", name := "<init>", desc := "(Ljava/lang/String;Ljava/lang/String;Ljava/lang/String;)V" } : Jvm.MethodName) prog_36_method_1_code (4 : Nat) (Option.none : Option Jvm.ClassFile.FieldType), Jvm.Cond.code ({ cls := "java/util/Objects", name := "requireNonNull", desc := "(Ljava/lang/Object;Ljava/lang/String;)Ljava/lang/Object;" } : Jvm.MethodName) jdk_31_method_11_code (2 : Nat) (Option.some (Jvm.ClassFile.FieldType.object "java/lang/Object")), Jvm.Cond.code ({ cls := "com/example/sure_paths/surepaths/model/ExistentialToClass", name := "equals", desc := "(Ljava/lang/Object;)Z" } : Jvm.MethodName) prog_36_method_5_code (3 : Nat) (Option.some Jvm.ClassFile.FieldType.boolean), Jvm.Cond.code ({ cls := "com/example/sure_paths/surepaths/model/ClassToExistential", name := "<init>", desc := "(Ljava/lang/String;Ljava/lang/String;Ljava/lang/String;)V" } : Jvm.MethodName) prog_32_method_1_code (4 : Nat) (Option.none : Option Jvm.ClassFile.FieldType), Jvm.Cond.code ({ cls := "com/example/sure_paths/surepaths/model/ExistentialToClassEqualsPinLaw", name := "theirs", desc := "(I)Ljava/lang/String;" } : Jvm.MethodName) method_5_code (3 : Nat) (Option.some (Jvm.ClassFile.FieldType.object "java/lang/String")), Jvm.Cond.code ({ cls := "com/example/sure_paths/surepaths/model/ExistentialToClassEqualsPinLaw", name := "expectSame", desc := "(I)Z" } : Jvm.MethodName) method_6_code (1 : Nat) (Option.some Jvm.ClassFile.FieldType.boolean), Jvm.Cond.code ({ cls := "java/lang/String", name := "equals", desc := "(Ljava/lang/Object;)Z" } : Jvm.MethodName) jdk_42_method_66_code (3 : Nat) (Option.some Jvm.ClassFile.FieldType.boolean), Jvm.Cond.code ({ cls := "java/lang/StringLatin1", name := "equals", desc := "([B[B)Z" } : Jvm.MethodName) jdk_43_method_13_code (3 : Nat) (Option.some Jvm.ClassFile.FieldType.boolean), Jvm.Cond.code ({ cls := "com/example/sure_paths/surepaths/model/ExistentialToClassEqualsPinLaw", name := "two", desc := "(CC)Ljava/lang/String;" } : Jvm.MethodName) method_3_code (2 : Nat) (Option.some (Jvm.ClassFile.FieldType.object "java/lang/String"))]
set_option maxRecDepth 65536 in
theorem codes_eq : words1.filter isCode = codes1 := rfl
theorem w_codes : ∀ c ∈ words1.filter isCode, c.before args0 about1 = true := by
  rw [codes_eq]
  intro c hc
  simp only [codes1, List.mem_cons, List.not_mem_nil, or_false] at hc
  rcases hc with rfl | rfl | rfl | rfl | rfl | rfl | rfl | rfl | rfl | rfl | rfl | rfl | rfl | rfl | rfl | rfl | rfl | rfl
  · exact w_c0
  · exact w_c1
  · exact w_c2
  · exact w_c3
  · exact w_c4
  · exact w_c5
  · exact w_c6
  · exact w_c7
  · exact w_c8
  · exact w_c9
  · exact w_c10
  · exact w_c11
  · exact w_c12
  · exact w_c13
  · exact w_c14
  · exact w_c15
  · exact w_c16
  · exact w_c17
set_option maxRecDepth 65536 in
theorem w_t1 : (words1.take 24).all (fun c => isCode c || c.before args0 about1) = true := by decide +kernel
set_option maxRecDepth 65536 in
theorem w_t2 : ((words1.drop 24).take 24).all (fun c => isCode c || c.before args0 about1) = true := by decide +kernel
set_option maxRecDepth 65536 in
theorem w_t3 : (((words1.drop 24).drop 24).take 24).all (fun c => isCode c || c.before args0 about1) = true := by decide +kernel
set_option maxRecDepth 65536 in
theorem w_t4 : ((((words1.drop 24).drop 24).drop 24).take 24).all (fun c => isCode c || c.before args0 about1) = true := by decide +kernel
set_option maxRecDepth 65536 in
theorem w_t5 : ((((words1.drop 24).drop 24).drop 24).drop 24).all (fun c => isCode c || c.before args0 about1) = true := by decide +kernel
theorem w_tables : (allAtoms (Jvm.Cond.code x code maxLocals ret :: tables_1)).before args0 about1 = true := by
  rw [allAtoms_all]
  show words1.all (fun c => c.before args0 about1) = true
  refine all_split ?_ w_codes
  rw [← List.take_append_drop 24 words1, List.all_append, w_t1, ← List.take_append_drop 24 (words1.drop 24), List.all_append, w_t2, ← List.take_append_drop 24 ((words1.drop 24).drop 24), List.all_append, w_t3, ← List.take_append_drop 24 (((words1.drop 24).drop 24).drop 24), List.all_append, w_t4, w_t5]
  rfl
set_option maxRecDepth 65536 in
theorem w_rest : rest_1_c.before args0 about1 = true := by decide +kernel
set_option maxRecDepth 65536 in
theorem w_case : (Jvm.Cond.and given_1 narrow_1).before args0 about1 = true := by decide +kernel
theorem w_applies : (headSpec (Jvm.Cond.code x code maxLocals ret :: tables_1) room_1).applies x e0.platform about1 = true :=
  (Spec.applies_iff w_frames).mpr ⟨w_running, w_runnable, w_alone, w_named, w_hears, w_ripe, w_room, w_tables⟩
theorem atStart : AtStart classFile x code maxLocals ret World_1 tables_1 room_1 Calls_1 rest_1 Pre_1 launch0 p0 e0 about1 theMethod args0 below0 :=
  ⟨lists_1, trivial, launch0.admits_env _ _ _, launch0.least_env, fairChoices_fair.cas, fairChoices_fair.clock, w_frames, w_args, w_heap, w_applies, trivial, w_rest, w_case⟩
end start1
theorem witness_1 : WitnessClaimed_1 := ⟨start1.p0, start1.e0, start1.about1, start1.theMethod, start1.args0, start1.below0, start1.atStart⟩
end Jvm.Pilot.@@N@@
