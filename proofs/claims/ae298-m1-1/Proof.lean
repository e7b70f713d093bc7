import JvmDerived
import JvmDerived.Pilot.@@N@@Statement
import JvmDerived.Pilot.@@N@@Code
set_option linter.unusedVariables false
set_option linter.unusedSimpArgs false
namespace Jvm.Pilot.@@N@@
open Jvm Jvm.ClassFile Sem Op Lib Jvm.Free Jvm.Stand Jvm.LawKit Jvm.RoadKit Bundle Jvm.Pilot.@@N@@.Jvm.D
/-! own: the walk by continuation -/
def Go (p : Program) (e : Env) (below : List Frame) (A : State) (G : Outcome → State → Prop) : Prop :=
  ∃ s₂ o, Steps p.tables e below A s₂ ∧ s₂.status = .running ∧ Ended s₂ below o ∧ G o s₂
section Own
variable {p : Program} {l : Launch} {e : Env} {R : Room} {s : State} {m : MethodId} {args : Array Value} {below : List Frame} {meth : Method} {c : Code} {T : State} {locs : List Loc} {cells slots : Nat} {G : Outcome → State → Prop} {A B : State}
theorem go_of (h : ∀ t, Steps p.tables e below B t → Steps p.tables e below A t) (k : Go p e below B G) : Go p e below A G := by
  obtain ⟨s₂, o, h1, h2⟩ := k; exact ⟨s₂, o, h _ h1, h2⟩
theorem go_tr (h : Steps p.tables e below A B) (k : Go p e below B G) : Go p e below A G := go_of (fun _ q => h.trans q) k
theorem go_end (X : Stand p l e R s m args below meth c T locs cells slots) {v : Option Value} (hv : meth.sig.returnType = none → v = none) (hlocks : meth.locks = false) {C S : Nat} (hc : cells ≤ C) (hs : slots ≤ S)
    {Q : Option Value → Heap → List Loc → Prop} (hQ : Q v T.heap locs) {f : JFrame}
    (st : ∀ fs, (∀ (f : JFrame) (acts : List Action), f.method = m → f.locked = none → f.entered = [] → (doReturn e (T.setTop f) acts v).1 = T.setFrames fs) → Steps p.tables e below (T.setTop f) (T.setFrames fs)) :
    Go p e below (T.setTop f) (fun o U' => ∃ v L, o = .returned v ∧ Q v U'.heap L ∧ FrameEnd s o U' L C S) := by
  obtain ⟨fs, hr, hrun, hended, hW, hsame⟩ := X.leave (v := v) hv hlocks
  exact ⟨_, _, st fs hr, hrun, hended, _, _, rfl, hQ, ⟨_, rfl⟩, hW, hsame.mono hc hs⟩
theorem go_endW {vm : Vm} (X : Stand p l e R (s.setVm vm) m args below meth c T locs cells slots) {k : Nat} (hS : s.Since vm k) (hk : k ≤ T.heap.size) {v : Option Value} (hv : meth.sig.returnType = none → v = none) (hlocks : meth.locks = false) {C S : Nat} (hc : cells ≤ C) (hs : slots ≤ S)
    {Q : Option Value → Heap → List Loc → Prop} (hQ : Q v T.heap locs) {f : JFrame}
    (st : ∀ fs, (∀ (f : JFrame) (acts : List Action), f.method = m → f.locked = none → f.entered = [] → (doReturn e (T.setTop f) acts v).1 = T.setFrames fs) → Steps p.tables e below (T.setTop f) (T.setFrames fs)) :
    Go p e below (T.setTop f) (fun o U' => ∃ v L, o = .returned v ∧ Q v U'.heap L ∧ ReturnedEndW s o U' L C S) := by
  obtain ⟨fs, hr, hrun, hended, e1, e2, e3, e4⟩ := X.leaveW hS hk (v := v) hv hlocks
  exact ⟨_, _, st fs hr, hrun, hended, _, _, rfl, hQ, e1, e2, e3, e4.mono hc hs⟩
theorem own_retI (X : Stand p l e R s m args below meth c T locs cells slots) (hx : p.tables.exec = Jvm.exec) {pc : Nat} {Ls : Array Slot} {z : Int32} {rest : List Value} (hret : meth.sig.returnType = some .int) (hd : decode c.code pc = .ok (.ireturn, 1)) {fs : List Frame}
    (hl : ∀ (f : JFrame) (acts : List Action), f.method = m → f.locked = none → f.entered = [] → (doReturn e (T.setTop f) acts (some (.int z))).1 = T.setFrames fs) : Steps p.tables e below (T.setTop (mkF m pc Ls (.int z :: rest))) (T.setFrames fs) :=
  retOut X hx hret rfl (Or.inl ⟨rfl, Or.inl rfl, _, rfl⟩) hd hl
theorem own_retL (X : Stand p l e R s m args below meth c T locs cells slots) (hx : p.tables.exec = Jvm.exec) {pc : Nat} {Ls : Array Slot} {z : Int64} {rest : List Value} (hret : meth.sig.returnType = some .long) (hd : decode c.code pc = .ok (.lreturn, 1)) {fs : List Frame}
    (hl : ∀ (f : JFrame) (acts : List Action), f.method = m → f.locked = none → f.entered = [] → (doReturn e (T.setTop f) acts (some (.long z))).1 = T.setFrames fs) : Steps p.tables e below (T.setTop (mkF m pc Ls (.long z :: rest))) (T.setFrames fs) :=
  retOut X hx hret rfl (Or.inr (Or.inl ⟨rfl, rfl, _, rfl⟩)) hd hl
theorem own_retA (X : Stand p l e R s m args below meth c T locs cells slots) (hx : p.tables.exec = Jvm.exec) {pc : Nat} {Ls : Array Slot} {w : Value} {t : FieldType} {rest : List Value} (hret : meth.sig.returnType = some t) (ht : t.isReference = true) (hw : w.isRef = true) (hd : decode c.code pc = .ok (.areturn, 1)) {fs : List Frame}
    (hl : ∀ (f : JFrame) (acts : List Action), f.method = m → f.locked = none → f.entered = [] → (doReturn e (T.setTop f) acts (some w)).1 = T.setFrames fs) : Steps p.tables e below (T.setTop (mkF m pc Ls (w :: rest))) (T.setFrames fs) :=
  retOut X hx hret (by cases t <;> first | rfl | (cases ht; done)) (Or.inr (Or.inr (Or.inr (Or.inr ⟨rfl, ht, hw⟩)))) hd hl
theorem own_fldI {t : Term} {C n d : String} {k : Int32} {a : Addr} (ev : t.eval args s none [] s = some (.ref a)) (h : (Jvm.Cond.eq (.field t C n d) (.int k)).value args s none s [] = some true) : Fld s s.heap a C n d (.int k) := by
  obtain ⟨x, y, h1, h2, -, kyx⟩ := cmp_v (Or.inl h)
  have e2 : y = .int k := (Option.some.inj (h2.symm.trans (Term.int_eval k)))
  subst e2
  obtain ⟨z, rfl⟩ := kyx
  have hz : z = k := by simpa [Cond.value, h1, Term.int_eval] using h
  subst hz
  rw [fld_at ev] at h1
  exact Fld.start h1
theorem own_ne {a b : Addr} (h : @Ne Nat a b) : a ≠ b := h
theorem own_le {a b : Nat} (h : @LE.le Nat instLENat a b) : @LE.le Nat instLENat a b := h
theorem own_nlt {a : Addr} {n : Nat} (h : a < n) : @LT.lt Nat instLTNat a n := h
theorem own_nle {a : Nat} {b : Addr} (h : a ≤ b) : @LE.le Nat instLENat a b := h
theorem own_inskeep {Z : State} {h h' : Heap} {a : Addr} {C : String} {ws : List Addr} (F : Ins Z h a C true) (K : Keep h h' ws) : Ins Z h' a C true := by
  obtain ⟨cell, cT, h1, h2, h3⟩ := F; obtain ⟨c', q, r1, r2, -⟩ := K.2.2 a cell h1; exact ⟨c', cT, q, h2, by rw [r1, r2]; exact h3⟩
theorem own_inslt {Z : State} {h : Heap} {a : Addr} {C : String} {b : Bool} (F : Ins Z h a C b) : a < h.size := by obtain ⟨_, _, h1, -⟩ := F; exact (Array.getElem?_eq_some_iff.mp h1).1
theorem own_kx {h h' : Heap} (K : Keep h h' []) : Ext h h' := ⟨K.1, fun a c q => K.2.1 a c q nin0⟩
theorem own_cache {t : Term} {C : String} {q : Jvm.Cond} {cl : Cell} {a : Addr} {ty : FieldType} (ev : ∀ idx, t.eval args s none idx s = some (.ref a)) (Ar : Arr s s.heap a cl ty)
    (h : (Jvm.Cond.all t (.and (.exactly (.elem t (.index 0)) C) q)).value args s none s [] = some true) (hz : cl.slots.size = 256) : ∀ i, i < 256 → ∃ w, cl.slots[i]? = some (.ref w) ∧ Exa s s.heap w C := fun i hi => by
  have hat : s.arrayAt? a = some cl := Arr.fin (Vm.Alike.refl _) Ar
  have hv := Cond.all_elim (ev []) hat h i (by rw [hz]; exact hi)
  obtain ⟨h1, -⟩ := and_e hv
  obtain ⟨w, ew⟩ := exa_v h1
  have ex := exa_at ew h1
  obtain ⟨p1, p2⟩ := IntBox.place_nonneg i hi
  rw [elem_f (ev [i]) (j := i.toInt32) rfl hat p1, p2] at ew
  exact ⟨w, ew, ex⟩
theorem own_stev {C n d : String} {v : Value} (h : (Term.static C n d).eval args s none [] s = some v) (idx : List Nat) : (Term.static C n d).eval args s none idx s = some v := h
theorem own_len {t : Term} {a : Addr} {cl : Cell} {ty : FieldType} {k : Int32} (ev : t.eval args s none [] s = some (.ref a)) (Ar : Arr s s.heap a cl ty) (h : (Jvm.Cond.eq (.length t) (.int k)).value args s none s [] = some true) (hk : ¬ k < 0) : cl.slots.size = k.toNatClampNeg := by
  have hat : s.arrayAt? a = some cl := Arr.fin (Vm.Alike.refl _) Ar
  obtain ⟨x, y, h1, h2, -, kyx⟩ := cmp_v (Or.inl h)
  have e2 : y = .int k := (Option.some.inj (h2.symm.trans (Term.int_eval k)))
  subst e2
  obtain ⟨z, rfl⟩ := kyx
  have hz : z = k := by simpa [Cond.value, h1, Term.int_eval] using h
  subst hz
  have hl : cl.slots.size < 2 ^ 31 := by
    by_cases q : cl.slots.size < 2 ^ 31
    · exact q
    · simp [Term.eval, ev, hat, q] at h1
  rw [len_f ev hat hl] at h1
  have h3 : cl.slots.size.toInt32 = z := by simpa using h1
  rw [← h3]
  have h4 := len_toInt hl
  simp only [Int32.toNatClampNeg, h4]; rfl
end Own
abbrev own_b8 (c : Int32) : Int32 := c.toInt8.toInt32
theorem own_bb (c : Int32) : c.toInt8.toInt32.toInt8.toInt32 = c.toInt8.toInt32 := by simp
/-- a String of Latin-1 chars -/
def Str (Z : State) (h : Heap) (a : Addr) (n : Int32) (cs : List Int32) : Prop := ∃ (t : Addr) (k : ClassId), Exa Z h a "java/lang/String" ∧ Fld Z h a "java/lang/String" "coder" "B" (.int 0) ∧ Fld Z h a "java/lang/String" "value" "[B" (.ref t) ∧ Arv Z h t k .byte n (cs.map fun c => .int (own_b8 c)) (.int 0) ∧ ∀ c ∈ cs, ¬ c < 0 ∧ ¬ (255 : Int32) < c
theorem Str.ext {Z : State} {h h' : Heap} {a : Addr} {n : Int32} {cs : List Int32} (F : Str Z h a n cs) (E : Ext h h') : Str Z h' a n cs := by
  obtain ⟨t, k, f1, f2, f3, f4, f5⟩ := F; exact ⟨t, k, f1.ext E, f2.ext E, f3.ext E, f4.ext E, f5⟩
theorem Str.lt {Z : State} {h : Heap} {a : Addr} {n : Int32} {cs : List Int32} (F : Str Z h a n cs) : a < h.size := by obtain ⟨t, k, f1, -⟩ := F; exact f1.lt
theorem Str.exa {Z : State} {h : Heap} {a : Addr} {n : Int32} {cs : List Int32} (F : Str Z h a n cs) : Exa Z h a "java/lang/String" := by obtain ⟨t, k, f1, -⟩ := F; exact f1
theorem own_allc {P : Int32 → Prop} {c : Int32} {cs : List Int32} (h : P c) (r : ∀ x ∈ cs, P x) : ∀ x ∈ c :: cs, P x := fun x q => (List.mem_cons.mp q).elim (fun e => e ▸ h) (r x)
theorem own_narc {c : Int32} (h : ¬ c < 0 ∧ ¬ (255 : Int32) < c) : nar .char c = c := by
  have h1 := c_i2c c
  apply Int32.toInt_inj.mp
  have e0 : (0 : Int32).toInt = 0 := rfl
  have e1 : (255 : Int32).toInt = 255 := rfl
  have h2 := h.1; have h3 := h.2
  rw [Int32.lt_iff_toInt_lt] at h2 h3
  show c.toUInt32.toUInt16.toUInt32.toInt32.toInt = c.toInt
  omega
theorem own_b255 {c : Int32} (h : ¬ c < 0 ∧ ¬ (255 : Int32) < c) : (own_b8 c &&& (255 : Int32)).toUInt32.toUInt16.toUInt32.toInt32 = c := by
  have h1 := c_i2b c
  have h4 : (own_b8 c &&& (255 : Int32)).toInt = (own_b8 c).toInt % 256 := c_mask (own_b8 c) 255 8 (by decide) (by decide)
  have h5 := c_i2c (own_b8 c &&& (255 : Int32))
  apply Int32.toInt_inj.mp
  have e0 : (0 : Int32).toInt = 0 := rfl
  have e1 : (255 : Int32).toInt = 255 := rfl
  have h2 := h.1; have h3 := h.2
  rw [Int32.lt_iff_toInt_lt] at h2 h3
  have e8 : (own_b8 c).toInt = c.toInt8.toInt32.toInt := rfl
  omega
theorem own_b8inj {c d : Int32} (h : ¬ c < 0 ∧ ¬ (255 : Int32) < c) (h' : ¬ d < 0 ∧ ¬ (255 : Int32) < d) (e : own_b8 c = own_b8 d) : c = d := by
  rw [← own_b255 h, ← own_b255 h', e]

theorem d5_0 : decode jdk_52_method_21_code 0 = .ok (.iconst 0, 1) := by decide +kernel
theorem d5_1 : decode jdk_52_method_21_code 1 = .ok (.istore 5, 2) := by decide +kernel
theorem d5_3 : decode jdk_52_method_21_code 3 = .ok (.iload 5, 2) := by decide +kernel
theorem d5_5 : decode jdk_52_method_21_code 5 = .ok (.iload 4, 2) := by decide +kernel
theorem d5_7 : decode jdk_52_method_21_code 7 = .ok (.if_icmp .ge 37, 3) := by decide +kernel
theorem d5_10 : decode jdk_52_method_21_code 10 = .ok (.aload_n 0, 1) := by decide +kernel
theorem d5_11 : decode jdk_52_method_21_code 11 = .ok (.iload_n 1, 1) := by decide +kernel
theorem d5_12 : decode jdk_52_method_21_code 12 = .ok (.caload, 1) := by decide +kernel
theorem d5_13 : decode jdk_52_method_21_code 13 = .ok (.istore 6, 2) := by decide +kernel
theorem d5_15 : decode jdk_52_method_21_code 15 = .ok (.iload 6, 2) := by decide +kernel
theorem d5_17 : decode jdk_52_method_21_code 17 = .ok (.sipush 255, 3) := by decide +kernel
theorem d5_20 : decode jdk_52_method_21_code 20 = .ok (.if_icmp .le 6, 3) := by decide +kernel
theorem d5_26 : decode jdk_52_method_21_code 26 = .ok (.aload_n 2, 1) := by decide +kernel
theorem d5_27 : decode jdk_52_method_21_code 27 = .ok (.iload_n 3, 1) := by decide +kernel
theorem d5_28 : decode jdk_52_method_21_code 28 = .ok (.iload 6, 2) := by decide +kernel
theorem d5_30 : decode jdk_52_method_21_code 30 = .ok (.i2b, 1) := by decide +kernel
theorem d5_31 : decode jdk_52_method_21_code 31 = .ok (.bastore, 1) := by decide +kernel
theorem d5_32 : decode jdk_52_method_21_code 32 = .ok (.iinc 1 1, 3) := by decide +kernel
theorem d5_35 : decode jdk_52_method_21_code 35 = .ok (.iinc 3 1, 3) := by decide +kernel
theorem d5_38 : decode jdk_52_method_21_code 38 = .ok (.iinc 5 1, 3) := by decide +kernel
theorem d5_41 : decode jdk_52_method_21_code 41 = .ok (.goto (-38), 3) := by decide +kernel
theorem d5_44 : decode jdk_52_method_21_code 44 = .ok (.iload 4, 2) := by decide +kernel
theorem d5_46 : decode jdk_52_method_21_code 46 = .ok (.ireturn, 1) := by decide +kernel
def Q_str_c5_3 (Z : State) (s' : Addr) (d : Addr) (c0 : Int32) (c1 : Int32) (c2 : Int32) (ks : ClassId) (kd : ClassId) (h0 : Heap) (n0 : Nat) (v : Option Value) (h : Heap) (L : List Loc) : Prop := v = some (.int 3) ∧ Fr n0 L ∧ Keep h0 h [d] ∧ Arv Z h d kd .byte 3 [(.int (own_b8 c0)), (.int (own_b8 c1)), (.int (own_b8 c2))] (.int 0)
theorem pn_java_lang_StringUTF16 : plainName "java/lang/StringUTF16" = true := by first | (simp [plainName, overriddenIn]; done) | decide +kernel
theorem ef_str_c5_3 (m : MethodId) (s' : Addr) (d : Addr)  : entryFrame m #[(.ref s'), (.int (0 : Int32)), (.ref d), (.int (0 : Int32)), (.int (3 : Int32))] 7 = mkF m 0 #[.val (.ref s'), .val (.int (0 : Int32)), .val (.ref d), .val (.int (0 : Int32)), .val (.int (3 : Int32)), .unset, .unset] [] := by first | (simp [entryFrame, mkF, argsToLocals, Value.category]; done) | rfl
set_option maxRecDepth 65536 in
set_option maxHeartbeats 40000000 in
theorem str_c5_3 (l : Launch) (Z : State) (a0 : Array Value) (hw : ∀ d ∈ tables_1, d.before a0 Z = true) (ws : List Jvm.Cond) (s' : Addr) (d : Addr) (c0 : Int32) (c1 : Int32) (c2 : Int32) (ks : ClassId) (kd : ClassId) (h0 : Heap) (n0 : Nat) (Z0 : n0 ≤ h0.size) (Vs : Arv Z h0 s' ks .char 3 [(.int c0), (.int c1), (.int c2)] (.int 0)) (Vd : Arv Z h0 d kd .byte 3 [(.int 0), (.int 0), (.int 0)] (.int 0)) (nsd : s' ≠ d) (g : n0 ≤ d) (hc0 : ¬ c0 < 0 ∧ ¬ (255 : Int32) < c0) (hc1 : ¬ c1 < 0 ∧ ¬ (255 : Int32) < c1) (hc2 : ¬ c2 < 0 ∧ ¬ (255 : Int32) < c2) :
    MetFree l (⟨"java/lang/StringUTF16", "compress", "([CI[BII)I"⟩ : MethodName) (head1 (Jvm.Cond.code (⟨"java/lang/StringUTF16", "compress", "([CI[BII)I"⟩ : MethodName) jdk_52_method_21_code 7 (some .int) :: ws) ({ frames := 0, cells := 0, slots := 0, locals := 0 } : Room)) (fun aa' U1' => aa' = #[(.ref s'), (.int (0 : Int32)), (.ref d), (.int (0 : Int32)), (.int (3 : Int32))] ∧ Z.Warmed39 U1'.vm ∧ U1'.heap = h0) (fun _ _ _ _ _ => True) (fun _ U1' oo' U2' => ∃ vv' LL', oo' = .returned vv' ∧ (Q_str_c5_3 Z s' d c0 c1 c2 ks kd h0 n0) vv' U2'.heap LL' ∧ FrameEnd U1' oo' U2' LL' ({ frames := 0, cells := 0, slots := 0, locals := 0 } : Room).cells ({ frames := 0, cells := 0, slots := 0, locals := 0 } : Room).slots) := by
  refine MetFree.of_bodySF (plainFor_of_name pn_java_lang_StringUTF16) hisR ?_
  intro p e s m args below meth c s₁ Bd hml0 hP hK
  obtain ⟨rfl, hZ, hh⟩ := hP
  have hx := Bd.exec
  have hby := Bd.bytes
  have hml : c.maxLocals = 7 := hml0
  have hown : s.vm.findClass "java/lang/StringUTF16" = some m.cls := findClass_of_methodNamed Bd.named
  have hnm := (name_of_methodNamed Bd.named Bd.method).1
  have X0 : Stand p l e ({ frames := 0, cells := 0, slots := 0, locals := 0 } : Room) s m #[(.ref s'), (.int (0 : Int32)), (.ref d), (.int (0 : Int32)), (.int (3 : Int32))] below meth c s₁ [] 0 0 := Stand.of_body Bd
  have e0 : s₁.heap = h0 := by rw [← hh, Bd.state]; rfl
  have N0 := Fr.nil n0
  have lts := own_nlt (Vs.lt)
  have ltd := own_nlt (Vd.lt)
  refine go_of (A := s₁.setTop (entryFrame m #[(.ref s'), (.int (0 : Int32)), (.ref d), (.int (0 : Int32)), (.int (3 : Int32))] 7)) (B := s₁.setTop (mkF m 0 #[.val (.ref s'), .val (.int (0 : Int32)), .val (.ref d), .val (.int (0 : Int32)), .val (.int (3 : Int32)), .unset, .unset] [])) (fun _ kk' => castTop (ef_str_c5_3 m s' d) kk') ?_
  refine go_of (B := (s₁.setTop (mkF m 1 #[.val (.ref s'), .val (.int (0 : Int32)), .val (.ref d), .val (.int (0 : Int32)), .val (.int (3 : Int32)), .unset, .unset] [(.int (0 : Int32))]))) (fun _ kk => XS.iconst X0.here hx rfl (hb hby d5_0) kk) ?_
  refine go_of (B := (s₁.setTop (mkF m 3 #[.val (.ref s'), .val (.int (0 : Int32)), .val (.ref d), .val (.int (0 : Int32)), .val (.int (3 : Int32)), .val (.int (0 : Int32)), .unset] []))) (fun _ kk => XS.istore X0.here hx rfl (hb hby d5_1) rfl rfl kk) ?_
  refine go_of (B := (s₁.setTop (mkF m 5 #[.val (.ref s'), .val (.int (0 : Int32)), .val (.ref d), .val (.int (0 : Int32)), .val (.int (3 : Int32)), .val (.int (0 : Int32)), .unset] [(.int (0 : Int32))]))) (fun _ kk => XS.iload X0.here hx rfl (hb hby d5_3) rfl kk) ?_
  refine go_of (B := (s₁.setTop (mkF m 7 #[.val (.ref s'), .val (.int (0 : Int32)), .val (.ref d), .val (.int (0 : Int32)), .val (.int (3 : Int32)), .val (.int (0 : Int32)), .unset] [(.int (3 : Int32)), (.int (0 : Int32))]))) (fun _ kk => XS.iload X0.here hx rfl (hb hby d5_5) rfl kk) ?_
  refine go_of (B := (s₁.setTop (mkF m 10 #[.val (.ref s'), .val (.int (0 : Int32)), .val (.ref d), .val (.int (0 : Int32)), .val (.int (3 : Int32)), .val (.int (0 : Int32)), .unset] []))) (fun _ kk => XS.icmpNo X0.here hx rfl (hb hby d5_7) rfl (tlt (by decide : (0 : Int32) < (3 : Int32))).2.1 kk) ?_
  refine go_of (B := (s₁.setTop (mkF m 11 #[.val (.ref s'), .val (.int (0 : Int32)), .val (.ref d), .val (.int (0 : Int32)), .val (.int (3 : Int32)), .val (.int (0 : Int32)), .unset] [(.ref s')]))) (fun _ kk => XS.aloadN X0.here hx rfl (hb hby d5_10) rfl rfl kk) ?_
  refine go_of (B := (s₁.setTop (mkF m 12 #[.val (.ref s'), .val (.int (0 : Int32)), .val (.ref d), .val (.int (0 : Int32)), .val (.int (3 : Int32)), .val (.int (0 : Int32)), .unset] [(.int (0 : Int32)), (.ref s')]))) (fun _ kk => XS.iloadN X0.here hx rfl (hb hby d5_11) rfl kk) ?_
  obtain ⟨cl1, Ar1, q1, Sz1, Nn1, Hh1, G1⟩ := id (Vs)
  refine go_of (B := (s₁.setTop (mkF m 13 #[.val (.ref s'), .val (.int (0 : Int32)), .val (.ref d), .val (.int (0 : Int32)), .val (.int (3 : Int32)), .val (.int (0 : Int32)), .unset] [(.int c0)]))) (fun _ kk => X0.caload hx (j := (0 : Int32)) (v := (.int c0)) (by rw [e0]; exact Ar1.1) (State.isArrayOf_alike hZ.alike Ar1.2.1) Ar1.2.2 (inb_of Sz1 ⟨by decide, by decide⟩) (Hh1.at (inb_of Sz1 ⟨by decide, by decide⟩) rfl) (g := (mkF m 12 #[.val (.ref s'), .val (.int (0 : Int32)), .val (.ref d), .val (.int (0 : Int32)), .val (.int (3 : Int32)), .val (.int (0 : Int32)), .unset] [(.int (0 : Int32)), (.ref s')])) rfl rfl (hb hby d5_12) _ kk) ?_
  refine go_of (B := (s₁.setTop (mkF m 15 #[.val (.ref s'), .val (.int (0 : Int32)), .val (.ref d), .val (.int (0 : Int32)), .val (.int (3 : Int32)), .val (.int (0 : Int32)), .val (.int c0)] []))) (fun _ kk => XS.istore X0.here hx rfl (hb hby d5_13) rfl rfl kk) ?_
  refine go_of (B := (s₁.setTop (mkF m 17 #[.val (.ref s'), .val (.int (0 : Int32)), .val (.ref d), .val (.int (0 : Int32)), .val (.int (3 : Int32)), .val (.int (0 : Int32)), .val (.int c0)] [(.int c0)]))) (fun _ kk => XS.iload X0.here hx rfl (hb hby d5_15) rfl kk) ?_
  refine go_of (B := (s₁.setTop (mkF m 20 #[.val (.ref s'), .val (.int (0 : Int32)), .val (.ref d), .val (.int (0 : Int32)), .val (.int (3 : Int32)), .val (.int (0 : Int32)), .val (.int c0)] [(.int (255 : Int32)), (.int c0)]))) (fun _ kk => XS.sipush X0.here hx rfl (hb hby d5_17) kk) ?_
  refine go_of (B := (s₁.setTop (mkF m 26 #[.val (.ref s'), .val (.int (0 : Int32)), .val (.ref d), .val (.int (0 : Int32)), .val (.int (3 : Int32)), .val (.int (0 : Int32)), .val (.int c0)] []))) (fun _ kk => XS.icmpYes X0.here hx rfl (pc0 := 20) (pc' := 26) rfl (hb hby d5_20) rfl (flt hc0.2).2.2.2 (by decide) (by decide) kk) ?_
  refine go_of (B := (s₁.setTop (mkF m 27 #[.val (.ref s'), .val (.int (0 : Int32)), .val (.ref d), .val (.int (0 : Int32)), .val (.int (3 : Int32)), .val (.int (0 : Int32)), .val (.int c0)] [(.ref d)]))) (fun _ kk => XS.aloadN X0.here hx rfl (hb hby d5_26) rfl rfl kk) ?_
  refine go_of (B := (s₁.setTop (mkF m 28 #[.val (.ref s'), .val (.int (0 : Int32)), .val (.ref d), .val (.int (0 : Int32)), .val (.int (3 : Int32)), .val (.int (0 : Int32)), .val (.int c0)] [(.int (0 : Int32)), (.ref d)]))) (fun _ kk => XS.iloadN X0.here hx rfl (hb hby d5_27) rfl kk) ?_
  refine go_of (B := (s₁.setTop (mkF m 30 #[.val (.ref s'), .val (.int (0 : Int32)), .val (.ref d), .val (.int (0 : Int32)), .val (.int (3 : Int32)), .val (.int (0 : Int32)), .val (.int c0)] [(.int c0), (.int (0 : Int32)), (.ref d)]))) (fun _ kk => XS.iload X0.here hx rfl (hb hby d5_28) rfl kk) ?_
  refine go_of (B := (s₁.setTop (mkF m 31 #[.val (.ref s'), .val (.int (0 : Int32)), .val (.ref d), .val (.int (0 : Int32)), .val (.int (3 : Int32)), .val (.int (0 : Int32)), .val (.int c0)] [(.int (c0.toInt8.toInt32)), (.int (0 : Int32)), (.ref d)]))) (fun _ kk => XS.i2b X0.here hx rfl (hb hby d5_30) rfl kk) ?_
  obtain ⟨cl2, Ar2, q2, Sz2, Nn2, Hh2, G2⟩ := id (Vd)
  obtain ⟨T3, h3, X3, e3, W3, st3⟩ := stB X0 hx hZ e0 Ar2 (j := (0 : Int32)) (inb_of Sz2 ⟨by decide, by decide⟩) (g := (mkF m 31 #[.val (.ref s'), .val (.int (0 : Int32)), .val (.ref d), .val (.int (0 : Int32)), .val (.int (3 : Int32)), .val (.int (0 : Int32)), .val (.int c0)] [(.int (c0.toInt8.toInt32)), (.int (0 : Int32)), (.ref d)])) rfl rfl (hb hby d5_31)
  have sz3 := W3.size
  have N3 := Fr.snoc X3 N0 (g : n0 ≤ d)
  have V3 : Arv Z h3 d kd .byte (3 : Int32) [(.int ((c0.toInt8.toInt32).toInt8.toInt32)), (.int (0 : Int32)), (.int (0 : Int32))] (.int (0 : Int32)) := Arv.set Ar2 q2 Sz2 Nn2 Hh2 G2 (fits_nar_byte _) W3 0 rfl (Nat.le_of_ble_eq_true rfl)
  rw [own_bb] at V3
  refine go_of (B := (T3.setTop (mkF m 32 #[.val (.ref s'), .val (.int (0 : Int32)), .val (.ref d), .val (.int (0 : Int32)), .val (.int (3 : Int32)), .val (.int (0 : Int32)), .val (.int c0)] []))) (st3) ?_
  refine go_of (B := (T3.setTop (mkF m 35 #[.val (.ref s'), .val (.int (1 : Int32)), .val (.ref d), .val (.int (0 : Int32)), .val (.int (3 : Int32)), .val (.int (0 : Int32)), .val (.int c0)] []))) (fun _ kk => XS.iinc X3.here hx rfl (hb hby d5_32) rfl rfl kk) ?_
  refine go_of (B := (T3.setTop (mkF m 38 #[.val (.ref s'), .val (.int (1 : Int32)), .val (.ref d), .val (.int (1 : Int32)), .val (.int (3 : Int32)), .val (.int (0 : Int32)), .val (.int c0)] []))) (fun _ kk => XS.iinc X3.here hx rfl (hb hby d5_35) rfl rfl kk) ?_
  refine go_of (B := (T3.setTop (mkF m 41 #[.val (.ref s'), .val (.int (1 : Int32)), .val (.ref d), .val (.int (1 : Int32)), .val (.int (3 : Int32)), .val (.int (1 : Int32)), .val (.int c0)] []))) (fun _ kk => XS.iinc X3.here hx rfl (hb hby d5_38) rfl rfl kk) ?_
  refine go_of (B := (T3.setTop (mkF m 3 #[.val (.ref s'), .val (.int (1 : Int32)), .val (.ref d), .val (.int (1 : Int32)), .val (.int (3 : Int32)), .val (.int (1 : Int32)), .val (.int c0)] []))) (fun _ kk => XS.goto X3.here hx rfl (pc0 := 41) (pc' := 3) rfl (hb hby d5_41) (by decide) (by decide) kk) ?_
  refine go_of (B := (T3.setTop (mkF m 5 #[.val (.ref s'), .val (.int (1 : Int32)), .val (.ref d), .val (.int (1 : Int32)), .val (.int (3 : Int32)), .val (.int (1 : Int32)), .val (.int c0)] [(.int (1 : Int32))]))) (fun _ kk => XS.iload X3.here hx rfl (hb hby d5_3) rfl kk) ?_
  refine go_of (B := (T3.setTop (mkF m 7 #[.val (.ref s'), .val (.int (1 : Int32)), .val (.ref d), .val (.int (1 : Int32)), .val (.int (3 : Int32)), .val (.int (1 : Int32)), .val (.int c0)] [(.int (3 : Int32)), (.int (1 : Int32))]))) (fun _ kk => XS.iload X3.here hx rfl (hb hby d5_5) rfl kk) ?_
  refine go_of (B := (T3.setTop (mkF m 10 #[.val (.ref s'), .val (.int (1 : Int32)), .val (.ref d), .val (.int (1 : Int32)), .val (.int (3 : Int32)), .val (.int (1 : Int32)), .val (.int c0)] []))) (fun _ kk => XS.icmpNo X3.here hx rfl (hb hby d5_7) rfl (tlt (by decide : (1 : Int32) < (3 : Int32))).2.1 kk) ?_
  refine go_of (B := (T3.setTop (mkF m 11 #[.val (.ref s'), .val (.int (1 : Int32)), .val (.ref d), .val (.int (1 : Int32)), .val (.int (3 : Int32)), .val (.int (1 : Int32)), .val (.int c0)] [(.ref s')]))) (fun _ kk => XS.aloadN X3.here hx rfl (hb hby d5_10) rfl rfl kk) ?_
  refine go_of (B := (T3.setTop (mkF m 12 #[.val (.ref s'), .val (.int (1 : Int32)), .val (.ref d), .val (.int (1 : Int32)), .val (.int (3 : Int32)), .val (.int (1 : Int32)), .val (.int c0)] [(.int (1 : Int32)), (.ref s')]))) (fun _ kk => XS.iloadN X3.here hx rfl (hb hby d5_11) rfl kk) ?_
  have cf_4 := (Vs.other W3 (by first | omega | exact own_ne (by omega) | exact own_le (by omega)))
  obtain ⟨cl5, Ar5, q5, Sz5, Nn5, Hh5, G5⟩ := id (cf_4)
  refine go_of (B := (T3.setTop (mkF m 13 #[.val (.ref s'), .val (.int (1 : Int32)), .val (.ref d), .val (.int (1 : Int32)), .val (.int (3 : Int32)), .val (.int (1 : Int32)), .val (.int c0)] [(.int c1)]))) (fun _ kk => X3.caload hx (j := (1 : Int32)) (v := (.int c1)) (by rw [e3]; exact Ar5.1) (State.isArrayOf_alike hZ.alike Ar5.2.1) Ar5.2.2 (inb_of Sz5 ⟨by decide, by decide⟩) (Hh5.at (inb_of Sz5 ⟨by decide, by decide⟩) rfl) (g := (mkF m 12 #[.val (.ref s'), .val (.int (1 : Int32)), .val (.ref d), .val (.int (1 : Int32)), .val (.int (3 : Int32)), .val (.int (1 : Int32)), .val (.int c0)] [(.int (1 : Int32)), (.ref s')])) rfl rfl (hb hby d5_12) _ kk) ?_
  refine go_of (B := (T3.setTop (mkF m 15 #[.val (.ref s'), .val (.int (1 : Int32)), .val (.ref d), .val (.int (1 : Int32)), .val (.int (3 : Int32)), .val (.int (1 : Int32)), .val (.int c1)] []))) (fun _ kk => XS.istore X3.here hx rfl (hb hby d5_13) rfl rfl kk) ?_
  refine go_of (B := (T3.setTop (mkF m 17 #[.val (.ref s'), .val (.int (1 : Int32)), .val (.ref d), .val (.int (1 : Int32)), .val (.int (3 : Int32)), .val (.int (1 : Int32)), .val (.int c1)] [(.int c1)]))) (fun _ kk => XS.iload X3.here hx rfl (hb hby d5_15) rfl kk) ?_
  refine go_of (B := (T3.setTop (mkF m 20 #[.val (.ref s'), .val (.int (1 : Int32)), .val (.ref d), .val (.int (1 : Int32)), .val (.int (3 : Int32)), .val (.int (1 : Int32)), .val (.int c1)] [(.int (255 : Int32)), (.int c1)]))) (fun _ kk => XS.sipush X3.here hx rfl (hb hby d5_17) kk) ?_
  refine go_of (B := (T3.setTop (mkF m 26 #[.val (.ref s'), .val (.int (1 : Int32)), .val (.ref d), .val (.int (1 : Int32)), .val (.int (3 : Int32)), .val (.int (1 : Int32)), .val (.int c1)] []))) (fun _ kk => XS.icmpYes X3.here hx rfl (pc0 := 20) (pc' := 26) rfl (hb hby d5_20) rfl (flt hc1.2).2.2.2 (by decide) (by decide) kk) ?_
  refine go_of (B := (T3.setTop (mkF m 27 #[.val (.ref s'), .val (.int (1 : Int32)), .val (.ref d), .val (.int (1 : Int32)), .val (.int (3 : Int32)), .val (.int (1 : Int32)), .val (.int c1)] [(.ref d)]))) (fun _ kk => XS.aloadN X3.here hx rfl (hb hby d5_26) rfl rfl kk) ?_
  refine go_of (B := (T3.setTop (mkF m 28 #[.val (.ref s'), .val (.int (1 : Int32)), .val (.ref d), .val (.int (1 : Int32)), .val (.int (3 : Int32)), .val (.int (1 : Int32)), .val (.int c1)] [(.int (1 : Int32)), (.ref d)]))) (fun _ kk => XS.iloadN X3.here hx rfl (hb hby d5_27) rfl kk) ?_
  refine go_of (B := (T3.setTop (mkF m 30 #[.val (.ref s'), .val (.int (1 : Int32)), .val (.ref d), .val (.int (1 : Int32)), .val (.int (3 : Int32)), .val (.int (1 : Int32)), .val (.int c1)] [(.int c1), (.int (1 : Int32)), (.ref d)]))) (fun _ kk => XS.iload X3.here hx rfl (hb hby d5_28) rfl kk) ?_
  refine go_of (B := (T3.setTop (mkF m 31 #[.val (.ref s'), .val (.int (1 : Int32)), .val (.ref d), .val (.int (1 : Int32)), .val (.int (3 : Int32)), .val (.int (1 : Int32)), .val (.int c1)] [(.int (c1.toInt8.toInt32)), (.int (1 : Int32)), (.ref d)]))) (fun _ kk => XS.i2b X3.here hx rfl (hb hby d5_30) rfl kk) ?_
  obtain ⟨cl6, Ar6, q6, Sz6, Nn6, Hh6, G6⟩ := id (V3)
  obtain ⟨T7, h7, X7, e7, W7, st7⟩ := stB X3 hx hZ e3 Ar6 (j := (1 : Int32)) (inb_of Sz6 ⟨by decide, by decide⟩) (g := (mkF m 31 #[.val (.ref s'), .val (.int (1 : Int32)), .val (.ref d), .val (.int (1 : Int32)), .val (.int (3 : Int32)), .val (.int (1 : Int32)), .val (.int c1)] [(.int (c1.toInt8.toInt32)), (.int (1 : Int32)), (.ref d)])) rfl rfl (hb hby d5_31)
  have sz7 := W7.size
  have N7 := Fr.snoc X7 N3 (g : n0 ≤ d)
  have V7 : Arv Z h7 d kd .byte (3 : Int32) [(.int (c0.toInt8.toInt32)), (.int ((c1.toInt8.toInt32).toInt8.toInt32)), (.int (0 : Int32))] (.int (0 : Int32)) := Arv.set Ar6 q6 Sz6 Nn6 Hh6 G6 (fits_nar_byte _) W7 1 rfl (Nat.le_of_ble_eq_true rfl)
  rw [own_bb] at V7
  refine go_of (B := (T7.setTop (mkF m 32 #[.val (.ref s'), .val (.int (1 : Int32)), .val (.ref d), .val (.int (1 : Int32)), .val (.int (3 : Int32)), .val (.int (1 : Int32)), .val (.int c1)] []))) (st7) ?_
  refine go_of (B := (T7.setTop (mkF m 35 #[.val (.ref s'), .val (.int (2 : Int32)), .val (.ref d), .val (.int (1 : Int32)), .val (.int (3 : Int32)), .val (.int (1 : Int32)), .val (.int c1)] []))) (fun _ kk => XS.iinc X7.here hx rfl (hb hby d5_32) rfl rfl kk) ?_
  refine go_of (B := (T7.setTop (mkF m 38 #[.val (.ref s'), .val (.int (2 : Int32)), .val (.ref d), .val (.int (2 : Int32)), .val (.int (3 : Int32)), .val (.int (1 : Int32)), .val (.int c1)] []))) (fun _ kk => XS.iinc X7.here hx rfl (hb hby d5_35) rfl rfl kk) ?_
  refine go_of (B := (T7.setTop (mkF m 41 #[.val (.ref s'), .val (.int (2 : Int32)), .val (.ref d), .val (.int (2 : Int32)), .val (.int (3 : Int32)), .val (.int (2 : Int32)), .val (.int c1)] []))) (fun _ kk => XS.iinc X7.here hx rfl (hb hby d5_38) rfl rfl kk) ?_
  refine go_of (B := (T7.setTop (mkF m 3 #[.val (.ref s'), .val (.int (2 : Int32)), .val (.ref d), .val (.int (2 : Int32)), .val (.int (3 : Int32)), .val (.int (2 : Int32)), .val (.int c1)] []))) (fun _ kk => XS.goto X7.here hx rfl (pc0 := 41) (pc' := 3) rfl (hb hby d5_41) (by decide) (by decide) kk) ?_
  refine go_of (B := (T7.setTop (mkF m 5 #[.val (.ref s'), .val (.int (2 : Int32)), .val (.ref d), .val (.int (2 : Int32)), .val (.int (3 : Int32)), .val (.int (2 : Int32)), .val (.int c1)] [(.int (2 : Int32))]))) (fun _ kk => XS.iload X7.here hx rfl (hb hby d5_3) rfl kk) ?_
  refine go_of (B := (T7.setTop (mkF m 7 #[.val (.ref s'), .val (.int (2 : Int32)), .val (.ref d), .val (.int (2 : Int32)), .val (.int (3 : Int32)), .val (.int (2 : Int32)), .val (.int c1)] [(.int (3 : Int32)), (.int (2 : Int32))]))) (fun _ kk => XS.iload X7.here hx rfl (hb hby d5_5) rfl kk) ?_
  refine go_of (B := (T7.setTop (mkF m 10 #[.val (.ref s'), .val (.int (2 : Int32)), .val (.ref d), .val (.int (2 : Int32)), .val (.int (3 : Int32)), .val (.int (2 : Int32)), .val (.int c1)] []))) (fun _ kk => XS.icmpNo X7.here hx rfl (hb hby d5_7) rfl (tlt (by decide : (2 : Int32) < (3 : Int32))).2.1 kk) ?_
  refine go_of (B := (T7.setTop (mkF m 11 #[.val (.ref s'), .val (.int (2 : Int32)), .val (.ref d), .val (.int (2 : Int32)), .val (.int (3 : Int32)), .val (.int (2 : Int32)), .val (.int c1)] [(.ref s')]))) (fun _ kk => XS.aloadN X7.here hx rfl (hb hby d5_10) rfl rfl kk) ?_
  refine go_of (B := (T7.setTop (mkF m 12 #[.val (.ref s'), .val (.int (2 : Int32)), .val (.ref d), .val (.int (2 : Int32)), .val (.int (3 : Int32)), .val (.int (2 : Int32)), .val (.int c1)] [(.int (2 : Int32)), (.ref s')]))) (fun _ kk => XS.iloadN X7.here hx rfl (hb hby d5_11) rfl kk) ?_
  have cf_8 := (cf_4.other W7 (by first | omega | exact own_ne (by omega) | exact own_le (by omega)))
  obtain ⟨cl9, Ar9, q9, Sz9, Nn9, Hh9, G9⟩ := id (cf_8)
  refine go_of (B := (T7.setTop (mkF m 13 #[.val (.ref s'), .val (.int (2 : Int32)), .val (.ref d), .val (.int (2 : Int32)), .val (.int (3 : Int32)), .val (.int (2 : Int32)), .val (.int c1)] [(.int c2)]))) (fun _ kk => X7.caload hx (j := (2 : Int32)) (v := (.int c2)) (by rw [e7]; exact Ar9.1) (State.isArrayOf_alike hZ.alike Ar9.2.1) Ar9.2.2 (inb_of Sz9 ⟨by decide, by decide⟩) (Hh9.at (inb_of Sz9 ⟨by decide, by decide⟩) rfl) (g := (mkF m 12 #[.val (.ref s'), .val (.int (2 : Int32)), .val (.ref d), .val (.int (2 : Int32)), .val (.int (3 : Int32)), .val (.int (2 : Int32)), .val (.int c1)] [(.int (2 : Int32)), (.ref s')])) rfl rfl (hb hby d5_12) _ kk) ?_
  refine go_of (B := (T7.setTop (mkF m 15 #[.val (.ref s'), .val (.int (2 : Int32)), .val (.ref d), .val (.int (2 : Int32)), .val (.int (3 : Int32)), .val (.int (2 : Int32)), .val (.int c2)] []))) (fun _ kk => XS.istore X7.here hx rfl (hb hby d5_13) rfl rfl kk) ?_
  refine go_of (B := (T7.setTop (mkF m 17 #[.val (.ref s'), .val (.int (2 : Int32)), .val (.ref d), .val (.int (2 : Int32)), .val (.int (3 : Int32)), .val (.int (2 : Int32)), .val (.int c2)] [(.int c2)]))) (fun _ kk => XS.iload X7.here hx rfl (hb hby d5_15) rfl kk) ?_
  refine go_of (B := (T7.setTop (mkF m 20 #[.val (.ref s'), .val (.int (2 : Int32)), .val (.ref d), .val (.int (2 : Int32)), .val (.int (3 : Int32)), .val (.int (2 : Int32)), .val (.int c2)] [(.int (255 : Int32)), (.int c2)]))) (fun _ kk => XS.sipush X7.here hx rfl (hb hby d5_17) kk) ?_
  refine go_of (B := (T7.setTop (mkF m 26 #[.val (.ref s'), .val (.int (2 : Int32)), .val (.ref d), .val (.int (2 : Int32)), .val (.int (3 : Int32)), .val (.int (2 : Int32)), .val (.int c2)] []))) (fun _ kk => XS.icmpYes X7.here hx rfl (pc0 := 20) (pc' := 26) rfl (hb hby d5_20) rfl (flt hc2.2).2.2.2 (by decide) (by decide) kk) ?_
  refine go_of (B := (T7.setTop (mkF m 27 #[.val (.ref s'), .val (.int (2 : Int32)), .val (.ref d), .val (.int (2 : Int32)), .val (.int (3 : Int32)), .val (.int (2 : Int32)), .val (.int c2)] [(.ref d)]))) (fun _ kk => XS.aloadN X7.here hx rfl (hb hby d5_26) rfl rfl kk) ?_
  refine go_of (B := (T7.setTop (mkF m 28 #[.val (.ref s'), .val (.int (2 : Int32)), .val (.ref d), .val (.int (2 : Int32)), .val (.int (3 : Int32)), .val (.int (2 : Int32)), .val (.int c2)] [(.int (2 : Int32)), (.ref d)]))) (fun _ kk => XS.iloadN X7.here hx rfl (hb hby d5_27) rfl kk) ?_
  refine go_of (B := (T7.setTop (mkF m 30 #[.val (.ref s'), .val (.int (2 : Int32)), .val (.ref d), .val (.int (2 : Int32)), .val (.int (3 : Int32)), .val (.int (2 : Int32)), .val (.int c2)] [(.int c2), (.int (2 : Int32)), (.ref d)]))) (fun _ kk => XS.iload X7.here hx rfl (hb hby d5_28) rfl kk) ?_
  refine go_of (B := (T7.setTop (mkF m 31 #[.val (.ref s'), .val (.int (2 : Int32)), .val (.ref d), .val (.int (2 : Int32)), .val (.int (3 : Int32)), .val (.int (2 : Int32)), .val (.int c2)] [(.int (c2.toInt8.toInt32)), (.int (2 : Int32)), (.ref d)]))) (fun _ kk => XS.i2b X7.here hx rfl (hb hby d5_30) rfl kk) ?_
  obtain ⟨cl10, Ar10, q10, Sz10, Nn10, Hh10, G10⟩ := id (V7)
  obtain ⟨T11, h11, X11, e11, W11, st11⟩ := stB X7 hx hZ e7 Ar10 (j := (2 : Int32)) (inb_of Sz10 ⟨by decide, by decide⟩) (g := (mkF m 31 #[.val (.ref s'), .val (.int (2 : Int32)), .val (.ref d), .val (.int (2 : Int32)), .val (.int (3 : Int32)), .val (.int (2 : Int32)), .val (.int c2)] [(.int (c2.toInt8.toInt32)), (.int (2 : Int32)), (.ref d)])) rfl rfl (hb hby d5_31)
  have sz11 := W11.size
  have N11 := Fr.snoc X11 N7 (g : n0 ≤ d)
  have V11 : Arv Z h11 d kd .byte (3 : Int32) [(.int (c0.toInt8.toInt32)), (.int (c1.toInt8.toInt32)), (.int ((c2.toInt8.toInt32).toInt8.toInt32))] (.int (0 : Int32)) := Arv.set Ar10 q10 Sz10 Nn10 Hh10 G10 (fits_nar_byte _) W11 2 rfl (Nat.le_of_ble_eq_true rfl)
  rw [own_bb] at V11
  refine go_of (B := (T11.setTop (mkF m 32 #[.val (.ref s'), .val (.int (2 : Int32)), .val (.ref d), .val (.int (2 : Int32)), .val (.int (3 : Int32)), .val (.int (2 : Int32)), .val (.int c2)] []))) (st11) ?_
  refine go_of (B := (T11.setTop (mkF m 35 #[.val (.ref s'), .val (.int (3 : Int32)), .val (.ref d), .val (.int (2 : Int32)), .val (.int (3 : Int32)), .val (.int (2 : Int32)), .val (.int c2)] []))) (fun _ kk => XS.iinc X11.here hx rfl (hb hby d5_32) rfl rfl kk) ?_
  refine go_of (B := (T11.setTop (mkF m 38 #[.val (.ref s'), .val (.int (3 : Int32)), .val (.ref d), .val (.int (3 : Int32)), .val (.int (3 : Int32)), .val (.int (2 : Int32)), .val (.int c2)] []))) (fun _ kk => XS.iinc X11.here hx rfl (hb hby d5_35) rfl rfl kk) ?_
  refine go_of (B := (T11.setTop (mkF m 41 #[.val (.ref s'), .val (.int (3 : Int32)), .val (.ref d), .val (.int (3 : Int32)), .val (.int (3 : Int32)), .val (.int (3 : Int32)), .val (.int c2)] []))) (fun _ kk => XS.iinc X11.here hx rfl (hb hby d5_38) rfl rfl kk) ?_
  refine go_of (B := (T11.setTop (mkF m 3 #[.val (.ref s'), .val (.int (3 : Int32)), .val (.ref d), .val (.int (3 : Int32)), .val (.int (3 : Int32)), .val (.int (3 : Int32)), .val (.int c2)] []))) (fun _ kk => XS.goto X11.here hx rfl (pc0 := 41) (pc' := 3) rfl (hb hby d5_41) (by decide) (by decide) kk) ?_
  refine go_of (B := (T11.setTop (mkF m 5 #[.val (.ref s'), .val (.int (3 : Int32)), .val (.ref d), .val (.int (3 : Int32)), .val (.int (3 : Int32)), .val (.int (3 : Int32)), .val (.int c2)] [(.int (3 : Int32))]))) (fun _ kk => XS.iload X11.here hx rfl (hb hby d5_3) rfl kk) ?_
  refine go_of (B := (T11.setTop (mkF m 7 #[.val (.ref s'), .val (.int (3 : Int32)), .val (.ref d), .val (.int (3 : Int32)), .val (.int (3 : Int32)), .val (.int (3 : Int32)), .val (.int c2)] [(.int (3 : Int32)), (.int (3 : Int32))]))) (fun _ kk => XS.iload X11.here hx rfl (hb hby d5_5) rfl kk) ?_
  refine go_of (B := (T11.setTop (mkF m 44 #[.val (.ref s'), .val (.int (3 : Int32)), .val (.ref d), .val (.int (3 : Int32)), .val (.int (3 : Int32)), .val (.int (3 : Int32)), .val (.int c2)] []))) (fun _ kk => XS.icmpYes X11.here hx rfl (pc0 := 7) (pc' := 44) rfl (hb hby d5_7) rfl (flt (by decide : ¬ ((3 : Int32) < (3 : Int32)))).2.1 (by decide) (by decide) kk) ?_
  refine go_of (B := (T11.setTop (mkF m 46 #[.val (.ref s'), .val (.int (3 : Int32)), .val (.ref d), .val (.int (3 : Int32)), .val (.int (3 : Int32)), .val (.int (3 : Int32)), .val (.int c2)] [(.int (3 : Int32))]))) (fun _ kk => XS.iload X11.here hx rfl (hb hby d5_44) rfl kk) ?_
  refine go_end X11 (v := some (.int (3 : Int32))) (fun h => by rw [Bd.returns] at h; cases h) Bd.notSynchronized (by decide) (by decide) (Q := (Q_str_c5_3 Z s' d c0 c1 c2 ks kd h0 n0)) ?_ (fun fs hr => own_retI X11 hx Bd.returns (hb hby d5_46) hr)
  show (fun (v : Option Value) (h : Heap) (L : List Loc) => v = some (.int 3) ∧ Fr n0 L ∧ Keep h0 h [d] ∧ Arv Z h d kd .byte 3 [(.int (own_b8 c0)), (.int (own_b8 c1)), (.int (own_b8 c2))] (.int 0)) (some (.int (3 : Int32))) T11.heap _
  rw [e11]
  exact ⟨rfl, N11, ((((Keep.refl h0 [d]).wr W3 (Or.inl (List.mem_of_getElem? (i := 0) rfl))).wr W7 (Or.inl (List.mem_of_getElem? (i := 0) rfl))).wr W11 (Or.inl (List.mem_of_getElem? (i := 0) rfl))), V11⟩
theorem d4_0 : decode jdk_52_method_16_code 0 = .ok (.iload_n 2, 1) := by decide +kernel
theorem d4_1 : decode jdk_52_method_16_code 1 = .ok (.newarray .byte, 2) := by decide +kernel
theorem d4_3 : decode jdk_52_method_16_code 3 = .ok (.astore_n 3, 1) := by decide +kernel
theorem d4_4 : decode jdk_52_method_16_code 4 = .ok (.aload_n 0, 1) := by decide +kernel
theorem d4_5 : decode jdk_52_method_16_code 5 = .ok (.iload_n 1, 1) := by decide +kernel
theorem d4_6 : decode jdk_52_method_16_code 6 = .ok (.aload_n 3, 1) := by decide +kernel
theorem d4_7 : decode jdk_52_method_16_code 7 = .ok (.iconst 0, 1) := by decide +kernel
theorem d4_8 : decode jdk_52_method_16_code 8 = .ok (.iload_n 2, 1) := by decide +kernel
theorem d4_9 : decode jdk_52_method_16_code 9 = .ok (.invokestatic 115, 3) := by decide +kernel
theorem pd___CI_BII_I : parseMethodDescriptor "([CI[BII)I" = some ⟨[(.array .char), .int, (.array .byte), .int, .int], some .int⟩ := by decide +kernel
theorem d4_12 : decode jdk_52_method_16_code 12 = .ok (.istore 4, 2) := by decide +kernel
theorem d4_14 : decode jdk_52_method_16_code 14 = .ok (.iload 4, 2) := by decide +kernel
theorem d4_16 : decode jdk_52_method_16_code 16 = .ok (.iload_n 2, 1) := by decide +kernel
theorem d4_17 : decode jdk_52_method_16_code 17 = .ok (.if_icmp .eq 40, 3) := by decide +kernel
theorem d4_57 : decode jdk_52_method_16_code 57 = .ok (.aload_n 3, 1) := by decide +kernel
theorem d4_58 : decode jdk_52_method_16_code 58 = .ok (.areturn, 1) := by decide +kernel
def Q_str_c3_3 (Z : State) (s' : Addr) (c0 : Int32) (c1 : Int32) (c2 : Int32) (ks : ClassId) (h0 : Heap) (n0 : Nat) (v : Option Value) (h : Heap) (L : List Loc) : Prop := ∃ (t : Addr) (k : ClassId), v = some (.ref t) ∧ Fr n0 L ∧ h0.size ≤ t ∧ Keep h0 h [] ∧ Arv Z h t k .byte 3 [(.int (own_b8 c0)), (.int (own_b8 c1)), (.int (own_b8 c2))] (.int 0)
theorem ef_str_c3_3 (m : MethodId) (s' : Addr)  : entryFrame m #[(.ref s'), (.int (0 : Int32)), (.int (3 : Int32))] 6 = mkF m 0 #[.val (.ref s'), .val (.int (0 : Int32)), .val (.int (3 : Int32)), .unset, .unset, .unset] [] := by first | (simp [entryFrame, mkF, argsToLocals, Value.category]; done) | rfl
set_option maxRecDepth 65536 in
set_option maxHeartbeats 40000000 in
theorem str_c3_3 (l : Launch) (Z : State) (a0 : Array Value) (hw : ∀ d ∈ tables_1, d.before a0 Z = true) (ws : List Jvm.Cond) (s' : Addr) (c0 : Int32) (c1 : Int32) (c2 : Int32) (ks : ClassId) (h0 : Heap) (n0 : Nat) (Z0 : n0 ≤ h0.size) (Vs : Arv Z h0 s' ks .char 3 [(.int c0), (.int c1), (.int c2)] (.int 0)) (hc0 : ¬ c0 < 0 ∧ ¬ (255 : Int32) < c0) (hc1 : ¬ c1 < 0 ∧ ¬ (255 : Int32) < c1) (hc2 : ¬ c2 < 0 ∧ ¬ (255 : Int32) < c2) :
    MetFree l (⟨"java/lang/StringUTF16", "compress", "([CII)[B"⟩ : MethodName) (head1 (Jvm.Cond.code (⟨"java/lang/StringUTF16", "compress", "([CII)[B"⟩ : MethodName) jdk_52_method_16_code 6 (some (.array .byte)) :: ws) ({ frames := 1, cells := 1, slots := 3, locals := 18 } : Room)) (fun aa' U1' => aa' = #[(.ref s'), (.int (0 : Int32)), (.int (3 : Int32))] ∧ Z.Warmed39 U1'.vm ∧ U1'.heap = h0) (fun _ _ _ _ _ => True) (fun _ U1' oo' U2' => ∃ vv' LL', oo' = .returned vv' ∧ (Q_str_c3_3 Z s' c0 c1 c2 ks h0 n0) vv' U2'.heap LL' ∧ FrameEnd U1' oo' U2' LL' ({ frames := 1, cells := 1, slots := 3, locals := 18 } : Room).cells ({ frames := 1, cells := 1, slots := 3, locals := 18 } : Room).slots) := by
  refine MetFree.of_bodySF (plainFor_of_name pn_java_lang_StringUTF16) hisR ?_
  intro p e s m args below meth c s₁ Bd hml0 hP hK
  obtain ⟨rfl, hZ, hh⟩ := hP
  have hx := Bd.exec
  have hby := Bd.bytes
  have hml : c.maxLocals = 6 := hml0
  have hown : s.vm.findClass "java/lang/StringUTF16" = some m.cls := findClass_of_methodNamed Bd.named
  have hnm := (name_of_methodNamed Bd.named Bd.method).1
  have X0 : Stand p l e ({ frames := 1, cells := 1, slots := 3, locals := 18 } : Room) s m #[(.ref s'), (.int (0 : Int32)), (.int (3 : Int32))] below meth c s₁ [] 0 0 := Stand.of_body Bd
  have e0 : s₁.heap = h0 := by rw [← hh, Bd.state]; rfl
  have N0 := Fr.nil n0
  have lts := own_nlt (Vs.lt)
  refine go_of (A := s₁.setTop (entryFrame m #[(.ref s'), (.int (0 : Int32)), (.int (3 : Int32))] 6)) (B := s₁.setTop (mkF m 0 #[.val (.ref s'), .val (.int (0 : Int32)), .val (.int (3 : Int32)), .unset, .unset, .unset] [])) (fun _ kk' => castTop (ef_str_c3_3 m s') kk') ?_
  refine go_of (B := (s₁.setTop (mkF m 1 #[.val (.ref s'), .val (.int (0 : Int32)), .val (.int (3 : Int32)), .unset, .unset, .unset] [(.int (3 : Int32))]))) (fun _ kk => XS.iloadN X0.here hx rfl (hb hby d4_0) rfl kk) ?_
  obtain ⟨T1, h1, k1, X1, e1, E1, A1, st1⟩ := newP X0 hx hZ (hw _ (List.mem_of_getElem? (i := 19) rfl)) e0 (g := (mkF m 1 #[.val (.ref s'), .val (.int (0 : Int32)), .val (.int (3 : Int32)), .unset, .unset, .unset] [(.int (3 : Int32))])) rfl (hb hby d4_1) rfl (by decide) (cap := 3) (by decide) (by decide) (by decide) (by decide)
  obtain ⟨b1, g1⟩ : ∃ z, z = h0.size := ⟨_, rfl⟩
  rw [← g1] at A1 st1
  have hi1 := own_nlt A1.lt
  have sz1 := E1.1
  have V1 : Arv Z h1 b1 k1 .byte (3 : Int32) [(.int (0 : Int32)), (.int (0 : Int32)), (.int (0 : Int32))] (.int (0 : Int32)) := (Arv.new A1 (by decide)).pad (pad_rep [] (.int (0 : Int32)) 3)
  refine go_of (B := (T1.setTop (mkF m 3 #[.val (.ref s'), .val (.int (0 : Int32)), .val (.int (3 : Int32)), .unset, .unset, .unset] [(.ref b1)]))) (st1) ?_
  refine go_of (B := (T1.setTop (mkF m 4 #[.val (.ref s'), .val (.int (0 : Int32)), .val (.int (3 : Int32)), .val (.ref b1), .unset, .unset] []))) (fun _ kk => XS.astoreN X1.here hx rfl (hb hby d4_3) rfl rfl rfl kk) ?_
  refine go_of (B := (T1.setTop (mkF m 5 #[.val (.ref s'), .val (.int (0 : Int32)), .val (.int (3 : Int32)), .val (.ref b1), .unset, .unset] [(.ref s')]))) (fun _ kk => XS.aloadN X1.here hx rfl (hb hby d4_4) rfl rfl kk) ?_
  refine go_of (B := (T1.setTop (mkF m 6 #[.val (.ref s'), .val (.int (0 : Int32)), .val (.int (3 : Int32)), .val (.ref b1), .unset, .unset] [(.int (0 : Int32)), (.ref s')]))) (fun _ kk => XS.iloadN X1.here hx rfl (hb hby d4_5) rfl kk) ?_
  refine go_of (B := (T1.setTop (mkF m 7 #[.val (.ref s'), .val (.int (0 : Int32)), .val (.int (3 : Int32)), .val (.ref b1), .unset, .unset] [(.ref b1), (.int (0 : Int32)), (.ref s')]))) (fun _ kk => XS.aloadN X1.here hx rfl (hb hby d4_6) rfl rfl kk) ?_
  refine go_of (B := (T1.setTop (mkF m 8 #[.val (.ref s'), .val (.int (0 : Int32)), .val (.int (3 : Int32)), .val (.ref b1), .unset, .unset] [(.int (0 : Int32)), (.ref b1), (.int (0 : Int32)), (.ref s')]))) (fun _ kk => XS.iconst X1.here hx rfl (hb hby d4_7) kk) ?_
  refine go_of (B := (T1.setTop (mkF m 9 #[.val (.ref s'), .val (.int (0 : Int32)), .val (.int (3 : Int32)), .val (.ref b1), .unset, .unset] [(.int (3 : Int32)), (.int (0 : Int32)), (.ref b1), (.int (0 : Int32)), (.ref s')]))) (fun _ kk => XS.iloadN X1.here hx rfl (hb hby d4_8) rfl kk) ?_
  have cf_2 := (Vs.ext E1)
  obtain ⟨_, _, ⟨T3, L3, k3, n3⟩, -, X3, ⟨Lc3, hQ3, l3, y3, z3⟩, st3⟩ := Jvm.LawKit.callS X1 hx (y := (⟨"java/lang/StringUTF16", "compress", "([CI[BII)I"⟩ : MethodName)) hown (mvT hZ (hw _ (List.mem_of_getElem? (i := 20) rfl))) (mvT hZ (hw _ (List.mem_of_getElem? (i := 21) rfl))) (mvT hZ (hw _ (List.mem_of_getElem? (i := 17) rfl))) (mvT hZ (hw _ (List.mem_of_getElem? (i := 22) rfl))) (by decide) (backOf (W := 0) (str_c5_3 l Z a0 hw [] s' b1 c0 c1 c2 ks k1 h1 n0 (by first | omega | exact own_ne (by omega) | exact own_le (by omega)) cf_2 V1 (by first | omega | exact own_ne (by omega) | exact own_le (by omega)) (by first | omega | exact own_ne (by omega) | exact own_le (by omega)) hc0 hc1 hc2) hZ (hw _ (List.mem_of_getElem? (i := 22) rfl)) (hw _ (List.mem_of_getElem? (i := 17) rfl)) (by decide) (by decide)) (g := (mkF m 9 #[.val (.ref s'), .val (.int (0 : Int32)), .val (.int (3 : Int32)), .val (.ref b1), .unset, .unset] [(.int (3 : Int32)), (.int (0 : Int32)), (.ref b1), (.int (0 : Int32)), (.ref s')])) rfl (by rw [hml]; rfl) (argsL := [(.ref s'), (.int (0 : Int32)), (.ref b1), (.int (0 : Int32)), (.int (3 : Int32))]) (rest := []) (lenOf pd___CI_BII_I rfl) rfl (by show 2 * 0 + _ ≤ _; exact Nat.le_of_eq rfl) (hb hby d4_9) (fun _ _ => ⟨rfl, e1, (by decide : 1 + 0 ≤ _), (by decide : 3 + 0 ≤ _)⟩)
  dsimp only [Pt.U, Pt.locs, Pt.cells, Pt.slots] at X3 l3 y3 z3 st3 hQ3
  subst l3 y3 z3
  obtain ⟨rfl, N3q, K3, V3⟩ := hQ3
  have N3 := Fr.app N0 N3q
  have sz3 := K3.1
  refine go_of (B := (T3.setTop (mkF m 12 #[.val (.ref s'), .val (.int (0 : Int32)), .val (.int (3 : Int32)), .val (.ref b1), .unset, .unset] [(.int (3 : Int32))]))) (st3) ?_
  refine go_of (B := (T3.setTop (mkF m 14 #[.val (.ref s'), .val (.int (0 : Int32)), .val (.int (3 : Int32)), .val (.ref b1), .val (.int (3 : Int32)), .unset] []))) (fun _ kk => XS.istore X3.here hx rfl (hb hby d4_12) rfl rfl kk) ?_
  refine go_of (B := (T3.setTop (mkF m 16 #[.val (.ref s'), .val (.int (0 : Int32)), .val (.int (3 : Int32)), .val (.ref b1), .val (.int (3 : Int32)), .unset] [(.int (3 : Int32))]))) (fun _ kk => XS.iload X3.here hx rfl (hb hby d4_14) rfl kk) ?_
  refine go_of (B := (T3.setTop (mkF m 17 #[.val (.ref s'), .val (.int (0 : Int32)), .val (.int (3 : Int32)), .val (.ref b1), .val (.int (3 : Int32)), .unset] [(.int (3 : Int32)), (.int (3 : Int32))]))) (fun _ kk => XS.iloadN X3.here hx rfl (hb hby d4_16) rfl kk) ?_
  refine go_of (B := (T3.setTop (mkF m 57 #[.val (.ref s'), .val (.int (0 : Int32)), .val (.int (3 : Int32)), .val (.ref b1), .val (.int (3 : Int32)), .unset] []))) (fun _ kk => XS.icmpYes X3.here hx rfl (pc0 := 17) (pc' := 57) rfl (hb hby d4_17) rfl (teq (by decide : (3 : Int32) = (3 : Int32))).1 (by decide) (by decide) kk) ?_
  refine go_of (B := (T3.setTop (mkF m 58 #[.val (.ref s'), .val (.int (0 : Int32)), .val (.int (3 : Int32)), .val (.ref b1), .val (.int (3 : Int32)), .unset] [(.ref b1)]))) (fun _ kk => XS.aloadN X3.here hx rfl (hb hby d4_57) rfl rfl kk) ?_
  refine go_end X3 (v := some (.ref b1)) (fun h => by rw [Bd.returns] at h; cases h) Bd.notSynchronized (by decide) (by decide) (Q := (Q_str_c3_3 Z s' c0 c1 c2 ks h0 n0)) ?_ (fun fs hr => own_retA X3 hx Bd.returns rfl rfl (hb hby d4_58) hr)
  show (fun (v : Option Value) (h : Heap) (L : List Loc) => ∃ (t : Addr) (k : ClassId), v = some (.ref t) ∧ Fr n0 L ∧ h0.size ≤ t ∧ Keep h0 h [] ∧ Arv Z h t k .byte 3 [(.int (own_b8 c0)), (.int (own_b8 c1)), (.int (own_b8 c2))] (.int 0)) (some (.ref b1)) T3.heap _
  exact ⟨b1, k1, rfl, N3, by omega, (((Keep.refl h0 []).ext E1).trans K3 (allS (Or.inr (by first | omega | exact own_ne (by omega) | exact own_le (by omega))) all0)), V3⟩
theorem d6_0 : decode jdk_52_method_15_code 0 = .ok (.iload_n 1, 1) := by decide +kernel
theorem d6_1 : decode jdk_52_method_15_code 1 = .ok (.aload_n 0, 1) := by decide +kernel
theorem d6_2 : decode jdk_52_method_15_code 2 = .ok (.arraylength, 1) := by decide +kernel
theorem d6_3 : decode jdk_52_method_15_code 3 = .ok (.isub, 1) := by decide +kernel
theorem d6_4 : decode jdk_52_method_15_code 4 = .ok (.bipush 31, 2) := by decide +kernel
theorem d6_6 : decode jdk_52_method_15_code 6 = .ok (.iushr, 1) := by decide +kernel
theorem d6_7 : decode jdk_52_method_15_code 7 = .ok (.i2b, 1) := by decide +kernel
theorem d6_8 : decode jdk_52_method_15_code 8 = .ok (.ireturn, 1) := by decide +kernel
def Q_str_cf_3 (Z : State) (t : Addr) (k : ClassId) (vs : List Value) (h0 : Heap) (n0 : Nat) (v : Option Value) (h : Heap) (L : List Loc) : Prop := v = some (.int 0) ∧ Fr n0 L ∧ h = h0
theorem ef_str_cf_3 (m : MethodId) (t : Addr)  : entryFrame m #[(.ref t), (.int (3 : Int32))] 2 = mkF m 0 #[.val (.ref t), .val (.int (3 : Int32))] [] := by first | (simp [entryFrame, mkF, argsToLocals, Value.category]; done) | rfl
set_option maxRecDepth 65536 in
set_option maxHeartbeats 40000000 in
theorem str_cf_3 (l : Launch) (Z : State) (a0 : Array Value) (hw : ∀ d ∈ tables_1, d.before a0 Z = true) (ws : List Jvm.Cond) (t : Addr) (k : ClassId) (vs : List Value) (h0 : Heap) (n0 : Nat) (Z0 : n0 ≤ h0.size) (V : Arv Z h0 t k .byte 3 vs (.int 0)) :
    MetFree l (⟨"java/lang/StringUTF16", "coderFromArrayLen", "([BI)B"⟩ : MethodName) (head1 (Jvm.Cond.code (⟨"java/lang/StringUTF16", "coderFromArrayLen", "([BI)B"⟩ : MethodName) jdk_52_method_15_code 2 (some .byte) :: ws) ({ frames := 0, cells := 0, slots := 0, locals := 0 } : Room)) (fun aa' U1' => aa' = #[(.ref t), (.int (3 : Int32))] ∧ Z.Warmed39 U1'.vm ∧ U1'.heap = h0) (fun _ _ _ _ _ => True) (fun _ U1' oo' U2' => ∃ vv' LL', oo' = .returned vv' ∧ (Q_str_cf_3 Z t k vs h0 n0) vv' U2'.heap LL' ∧ FrameEnd U1' oo' U2' LL' ({ frames := 0, cells := 0, slots := 0, locals := 0 } : Room).cells ({ frames := 0, cells := 0, slots := 0, locals := 0 } : Room).slots) := by
  refine MetFree.of_bodySF (plainFor_of_name pn_java_lang_StringUTF16) hisR ?_
  intro p e s m args below meth c s₁ Bd hml0 hP hK
  obtain ⟨rfl, hZ, hh⟩ := hP
  have hx := Bd.exec
  have hby := Bd.bytes
  have hml : c.maxLocals = 2 := hml0
  have hown : s.vm.findClass "java/lang/StringUTF16" = some m.cls := findClass_of_methodNamed Bd.named
  have hnm := (name_of_methodNamed Bd.named Bd.method).1
  have X0 : Stand p l e ({ frames := 0, cells := 0, slots := 0, locals := 0 } : Room) s m #[(.ref t), (.int (3 : Int32))] below meth c s₁ [] 0 0 := Stand.of_body Bd
  have e0 : s₁.heap = h0 := by rw [← hh, Bd.state]; rfl
  have N0 := Fr.nil n0
  refine go_of (A := s₁.setTop (entryFrame m #[(.ref t), (.int (3 : Int32))] 2)) (B := s₁.setTop (mkF m 0 #[.val (.ref t), .val (.int (3 : Int32))] [])) (fun _ kk' => castTop (ef_str_cf_3 m t) kk') ?_
  refine go_of (B := (s₁.setTop (mkF m 1 #[.val (.ref t), .val (.int (3 : Int32))] [(.int (3 : Int32))]))) (fun _ kk => XS.iloadN X0.here hx rfl (hb hby d6_0) rfl kk) ?_
  refine go_of (B := (s₁.setTop (mkF m 2 #[.val (.ref t), .val (.int (3 : Int32))] [(.ref t), (.int (3 : Int32))]))) (fun _ kk => XS.aloadN X0.here hx rfl (hb hby d6_1) rfl rfl kk) ?_
  obtain ⟨cl1, Ar1, q1, Sz1, Nn1, Hh1, G1⟩ := id (V)
  have ln1 := len_of Sz1 Nn1
  refine go_of (B := (s₁.setTop (mkF m 3 #[.val (.ref t), .val (.int (3 : Int32))] [(.int (3 : Int32)), (.int (3 : Int32))]))) (fun _ kk => X0.arraylength hx (by rw [e0]; exact Ar1.1) (State.isArrayOf_alike hZ.alike Ar1.2.1) (g := (mkF m 2 #[.val (.ref t), .val (.int (3 : Int32))] [(.ref t), (.int (3 : Int32))])) rfl rfl (hb hby d6_2) _ (by rw [ln1]; exact kk)) ?_
  refine go_of (B := (s₁.setTop (mkF m 4 #[.val (.ref t), .val (.int (3 : Int32))] [(.int (0 : Int32))]))) (fun _ kk => XS.isub X0.here hx rfl (hb hby d6_3) rfl kk) ?_
  refine go_of (B := (s₁.setTop (mkF m 6 #[.val (.ref t), .val (.int (3 : Int32))] [(.int (31 : Int32)), (.int (0 : Int32))]))) (fun _ kk => XS.bipush X0.here hx rfl (hb hby d6_4) kk) ?_
  refine go_of (B := (s₁.setTop (mkF m 7 #[.val (.ref t), .val (.int (3 : Int32))] [(.int (0 : Int32))]))) (fun _ kk => XS.iushr X0.here hx rfl (hb hby d6_6) rfl kk) ?_
  refine go_of (B := (s₁.setTop (mkF m 8 #[.val (.ref t), .val (.int (3 : Int32))] [(.int (0 : Int32))]))) (fun _ kk => XS.i2b X0.here hx rfl (hb hby d6_7) rfl kk) ?_
  refine go_end X0 (v := some (.int (nar .byte (0 : Int32)))) (fun h => by rw [Bd.returns] at h; cases h) Bd.notSynchronized (by decide) (by decide) (Q := (Q_str_cf_3 Z t k vs h0 n0)) ?_ (fun fs hr => retN X0 hx (t := .byte) Bd.returns (by simp) (hb hby d6_8) hr)
  show (fun (v : Option Value) (h : Heap) (L : List Loc) => v = some (.int 0) ∧ Fr n0 L ∧ h = h0) (some (.int (nar .byte (0 : Int32)))) s₁.heap _
  rw [e0]
  exact ⟨rfl, N0, rfl⟩
theorem d2_0 : decode jdk_42_method_149_code 0 = .ok (.aload_n 0, 1) := by decide +kernel
theorem d2_1 : decode jdk_42_method_149_code 1 = .ok (.invokespecial 1, 3) := by decide +kernel
theorem d2_4 : decode jdk_42_method_149_code 4 = .ok (.iload_n 3, 1) := by decide +kernel
theorem d2_5 : decode jdk_42_method_149_code 5 = .ok (.ifCond .ne 22, 3) := by decide +kernel
theorem d2_27 : decode jdk_42_method_149_code 27 = .ok (.getstatic 38, 3) := by decide +kernel
theorem d2_30 : decode jdk_42_method_149_code 30 = .ok (.ifCond .eq 28, 3) := by decide +kernel
theorem d2_33 : decode jdk_42_method_149_code 33 = .ok (.aload_n 1, 1) := by decide +kernel
theorem d2_34 : decode jdk_42_method_149_code 34 = .ok (.iload_n 2, 1) := by decide +kernel
theorem d2_35 : decode jdk_42_method_149_code 35 = .ok (.iload_n 3, 1) := by decide +kernel
theorem d2_36 : decode jdk_42_method_149_code 36 = .ok (.invokestatic 177, 3) := by decide +kernel
theorem pd___CII__B : parseMethodDescriptor "([CII)[B" = some ⟨[(.array .char), .int, .int], some (.array .byte)⟩ := by decide +kernel
theorem d2_39 : decode jdk_42_method_149_code 39 = .ok (.astore 5, 2) := by decide +kernel
theorem d2_41 : decode jdk_42_method_149_code 41 = .ok (.aload_n 0, 1) := by decide +kernel
theorem d2_42 : decode jdk_42_method_149_code 42 = .ok (.aload 5, 2) := by decide +kernel
theorem d2_44 : decode jdk_42_method_149_code 44 = .ok (.iload_n 3, 1) := by decide +kernel
theorem d2_45 : decode jdk_42_method_149_code 45 = .ok (.invokestatic 47, 3) := by decide +kernel
theorem pd___BI_B : parseMethodDescriptor "([BI)B" = some ⟨[(.array .byte), .int], some .byte⟩ := by decide +kernel
theorem d2_48 : decode jdk_42_method_149_code 48 = .ok (.putfield 15, 3) := by decide +kernel
theorem d2_51 : decode jdk_42_method_149_code 51 = .ok (.aload_n 0, 1) := by decide +kernel
theorem d2_52 : decode jdk_42_method_149_code 52 = .ok (.aload 5, 2) := by decide +kernel
theorem d2_54 : decode jdk_42_method_149_code 54 = .ok (.putfield 9, 3) := by decide +kernel
theorem d2_57 : decode jdk_42_method_149_code 57 = .ok (.return_, 1) := by decide +kernel
def Q_str_i4_3 (Z : State) (a : Addr) (s' : Addr) (c0 : Int32) (c1 : Int32) (c2 : Int32) (ks : ClassId) (gC : Int32) (u : Value) (u2 : Value) (h0 : Heap) (n0 : Nat) (v : Option Value) (h : Heap) (L : List Loc) : Prop := v = none ∧ Fr n0 L ∧ Keep h0 h [a] ∧ Str Z h a 3 [c0, c1, c2]
theorem pn_java_lang_String : plainName "java/lang/String" = true := by first | (simp [plainName, overriddenIn]; done) | decide +kernel
theorem ef_str_i4_3 (m : MethodId) (a : Addr) (s' : Addr)  : entryFrame m #[(.ref a), (.ref s'), (.int (0 : Int32)), (.int (3 : Int32)), .null] 6 = mkF m 0 #[.val (.ref a), .val (.ref s'), .val (.int (0 : Int32)), .val (.int (3 : Int32)), .val .null, .unset] [] := by first | (simp [entryFrame, mkF, argsToLocals, Value.category]; done) | rfl
set_option maxRecDepth 65536 in
set_option maxHeartbeats 40000000 in
theorem str_i4_3 (l : Launch) (Z : State) (a0 : Array Value) (hw : ∀ d ∈ tables_1, d.before a0 Z = true) (ws : List Jvm.Cond) (a : Addr) (s' : Addr) (c0 : Int32) (c1 : Int32) (c2 : Int32) (ks : ClassId) (gC : Int32) (u : Value) (u2 : Value) (h0 : Heap) (n0 : Nat) (Z0 : n0 ≤ h0.size) (O : Old Z n0 h0) (SC : Sta Z Z.heap "java/lang/String" "COMPACT_STRINGS" "Z" (.int gC)) (hgC : ¬ gC = (0 : Int32)) (E : Exa Z h0 a "java/lang/String") (F : Fld Z h0 a "java/lang/String" "value" "[B" u) (F2 : Fld Z h0 a "java/lang/String" "coder" "B" u2) (g : n0 ≤ a) (Vs : Arv Z h0 s' ks .char 3 [(.int c0), (.int c1), (.int c2)] (.int 0)) (hc0 : ¬ c0 < 0 ∧ ¬ (255 : Int32) < c0) (hc1 : ¬ c1 < 0 ∧ ¬ (255 : Int32) < c1) (hc2 : ¬ c2 < 0 ∧ ¬ (255 : Int32) < c2) :
    MetFree l (⟨"java/lang/String", "<init>", "([CIILjava/lang/Void;)V"⟩ : MethodName) (head1 (Jvm.Cond.code (⟨"java/lang/String", "<init>", "([CIILjava/lang/Void;)V"⟩ : MethodName) jdk_42_method_149_code 6 none :: ws) ({ frames := 2, cells := 1, slots := 3, locals := 35 } : Room)) (fun aa' U1' => aa' = #[(.ref a), (.ref s'), (.int (0 : Int32)), (.int (3 : Int32)), .null] ∧ Z.Warmed39 U1'.vm ∧ U1'.heap = h0) (fun _ _ _ _ _ => True) (fun _ U1' oo' U2' => ∃ vv' LL', oo' = .returned vv' ∧ (Q_str_i4_3 Z a s' c0 c1 c2 ks gC u u2 h0 n0) vv' U2'.heap LL' ∧ FrameEnd U1' oo' U2' LL' ({ frames := 2, cells := 1, slots := 3, locals := 35 } : Room).cells ({ frames := 2, cells := 1, slots := 3, locals := 35 } : Room).slots) := by
  refine MetFree.of_bodySF (plainFor_of_name pn_java_lang_String) hisR ?_
  intro p e s m args below meth c s₁ Bd hml0 hP hK
  obtain ⟨rfl, hZ, hh⟩ := hP
  have hx := Bd.exec
  have hby := Bd.bytes
  have hml : c.maxLocals = 6 := hml0
  have hown : s.vm.findClass "java/lang/String" = some m.cls := findClass_of_methodNamed Bd.named
  have hnm := (name_of_methodNamed Bd.named Bd.method).1
  have X0 : Stand p l e ({ frames := 2, cells := 1, slots := 3, locals := 35 } : Room) s m #[(.ref a), (.ref s'), (.int (0 : Int32)), (.int (3 : Int32)), .null] below meth c s₁ [] 0 0 := Stand.of_body Bd
  have e0 : s₁.heap = h0 := by rw [← hh, Bd.state]; rfl
  have N0 := Fr.nil n0
  have lta := own_nlt (E.lt)
  have lts := own_nlt (Vs.lt)
  refine go_of (A := s₁.setTop (entryFrame m #[(.ref a), (.ref s'), (.int (0 : Int32)), (.int (3 : Int32)), .null] 6)) (B := s₁.setTop (mkF m 0 #[.val (.ref a), .val (.ref s'), .val (.int (0 : Int32)), .val (.int (3 : Int32)), .val .null, .unset] [])) (fun _ kk' => castTop (ef_str_i4_3 m a s') kk') ?_
  refine go_of (B := (s₁.setTop (mkF m 1 #[.val (.ref a), .val (.ref s'), .val (.int (0 : Int32)), .val (.int (3 : Int32)), .val .null, .unset] [(.ref a)]))) (fun _ kk => XS.aloadN X0.here hx rfl (hb hby d2_0) rfl rfl kk) ?_
  obtain ⟨T1, X1, e1, st1⟩ := initO X0 hx hZ hown (hw _ (List.mem_of_getElem? (i := 11) rfl)) (hw _ (List.mem_of_getElem? (i := 12) rfl)) (hw _ (List.mem_of_getElem? (i := 13) rfl)) e0 (g := (mkF m 1 #[.val (.ref a), .val (.ref s'), .val (.int (0 : Int32)), .val (.int (3 : Int32)), .val .null, .unset] [(.ref a)])) rfl (by rw [hml]; rfl) rfl (hb hby d2_1) (by decide) (W := 0) (by show 2 * 0 + _ ≤ _; exact Nat.le_of_eq rfl) (by decide)
  refine go_of (B := (T1.setTop (mkF m 4 #[.val (.ref a), .val (.ref s'), .val (.int (0 : Int32)), .val (.int (3 : Int32)), .val .null, .unset] []))) (st1) ?_
  refine go_of (B := (T1.setTop (mkF m 5 #[.val (.ref a), .val (.ref s'), .val (.int (0 : Int32)), .val (.int (3 : Int32)), .val .null, .unset] [(.int (3 : Int32))]))) (fun _ kk => XS.iloadN X1.here hx rfl (hb hby d2_4) rfl kk) ?_
  refine go_of (B := (T1.setTop (mkF m 27 #[.val (.ref a), .val (.ref s'), .val (.int (0 : Int32)), .val (.int (3 : Int32)), .val .null, .unset] []))) (fun _ kk => XS.ifYes X1.here hx rfl (pc0 := 5) (pc' := 27) rfl (hb hby d2_5) rfl ((if0 _ _).trans (feq (by decide : ¬ ((3 : Int32) = (0 : Int32)))).2) (by decide) (by decide) kk) ?_
  obtain ⟨T2, X2, e2, st2⟩ := getS2 X1 hx hZ hown (host := "") (Or.inl (hw _ (List.mem_of_getElem? (i := 14) rfl))) Via.refl e1 (SC.ext O.2) (g := (mkF m 27 #[.val (.ref a), .val (.ref s'), .val (.int (0 : Int32)), .val (.int (3 : Int32)), .val .null, .unset] [])) rfl (hb hby d2_27)
  refine go_of (B := (T2.setTop (mkF m 30 #[.val (.ref a), .val (.ref s'), .val (.int (0 : Int32)), .val (.int (3 : Int32)), .val .null, .unset] [(.int gC)]))) (st2) ?_
  refine go_of (B := (T2.setTop (mkF m 33 #[.val (.ref a), .val (.ref s'), .val (.int (0 : Int32)), .val (.int (3 : Int32)), .val .null, .unset] []))) (fun _ kk => XS.ifNo X2.here hx rfl (hb hby d2_30) rfl ((if0 _ _).trans (feq hgC).1) kk) ?_
  refine go_of (B := (T2.setTop (mkF m 34 #[.val (.ref a), .val (.ref s'), .val (.int (0 : Int32)), .val (.int (3 : Int32)), .val .null, .unset] [(.ref s')]))) (fun _ kk => XS.aloadN X2.here hx rfl (hb hby d2_33) rfl rfl kk) ?_
  refine go_of (B := (T2.setTop (mkF m 35 #[.val (.ref a), .val (.ref s'), .val (.int (0 : Int32)), .val (.int (3 : Int32)), .val .null, .unset] [(.int (0 : Int32)), (.ref s')]))) (fun _ kk => XS.iloadN X2.here hx rfl (hb hby d2_34) rfl kk) ?_
  refine go_of (B := (T2.setTop (mkF m 36 #[.val (.ref a), .val (.ref s'), .val (.int (0 : Int32)), .val (.int (3 : Int32)), .val .null, .unset] [(.int (3 : Int32)), (.int (0 : Int32)), (.ref s')]))) (fun _ kk => XS.iloadN X2.here hx rfl (hb hby d2_35) rfl kk) ?_
  obtain ⟨_, _, ⟨T3, L3, k3, n3⟩, -, X3, ⟨Lc3, hQ3, l3, y3, z3⟩, st3⟩ := Jvm.LawKit.callS X2 hx (y := (⟨"java/lang/StringUTF16", "compress", "([CII)[B"⟩ : MethodName)) hown (mvT hZ (hw _ (List.mem_of_getElem? (i := 15) rfl))) (mvT hZ (hw _ (List.mem_of_getElem? (i := 16) rfl))) (mvT hZ (hw _ (List.mem_of_getElem? (i := 17) rfl))) (mvT hZ (hw _ (List.mem_of_getElem? (i := 18) rfl))) (by decide) (backOf (W := 0) (str_c3_3 l Z a0 hw [] s' c0 c1 c2 ks h0 n0 (by first | omega | exact own_ne (by omega) | exact own_le (by omega)) Vs hc0 hc1 hc2) hZ (hw _ (List.mem_of_getElem? (i := 18) rfl)) (hw _ (List.mem_of_getElem? (i := 17) rfl)) (by decide) (by decide)) (g := (mkF m 36 #[.val (.ref a), .val (.ref s'), .val (.int (0 : Int32)), .val (.int (3 : Int32)), .val .null, .unset] [(.int (3 : Int32)), (.int (0 : Int32)), (.ref s')])) rfl (by rw [hml]; rfl) (argsL := [(.ref s'), (.int (0 : Int32)), (.int (3 : Int32))]) (rest := []) (lenOf pd___CII__B rfl) rfl (by show 2 * 0 + _ ≤ _; exact Nat.le_of_eq rfl) (hb hby d2_36) (fun _ _ => ⟨rfl, e2, (by decide : 0 + 1 ≤ _), (by decide : 0 + 3 ≤ _)⟩)
  dsimp only [Pt.U, Pt.locs, Pt.cells, Pt.slots] at X3 l3 y3 z3 st3 hQ3
  subst l3 y3 z3
  obtain ⟨b3, k3, rfl, N3q, lo3, K3, V3⟩ := hQ3
  have lo3 := own_nle lo3
  have N3 := Fr.app N0 N3q
  have hi3 := own_nlt (V3.lt)
  have sz3 := K3.1
  refine go_of (B := (T3.setTop (mkF m 39 #[.val (.ref a), .val (.ref s'), .val (.int (0 : Int32)), .val (.int (3 : Int32)), .val .null, .unset] [(.ref b3)]))) (st3) ?_
  refine go_of (B := (T3.setTop (mkF m 41 #[.val (.ref a), .val (.ref s'), .val (.int (0 : Int32)), .val (.int (3 : Int32)), .val .null, .val (.ref b3)] []))) (fun _ kk => XS.astore X3.here hx rfl (hb hby d2_39) rfl rfl rfl kk) ?_
  refine go_of (B := (T3.setTop (mkF m 42 #[.val (.ref a), .val (.ref s'), .val (.int (0 : Int32)), .val (.int (3 : Int32)), .val .null, .val (.ref b3)] [(.ref a)]))) (fun _ kk => XS.aloadN X3.here hx rfl (hb hby d2_41) rfl rfl kk) ?_
  refine go_of (B := (T3.setTop (mkF m 44 #[.val (.ref a), .val (.ref s'), .val (.int (0 : Int32)), .val (.int (3 : Int32)), .val .null, .val (.ref b3)] [(.ref b3), (.ref a)]))) (fun _ kk => XS.aload X3.here hx rfl (hb hby d2_42) rfl rfl kk) ?_
  refine go_of (B := (T3.setTop (mkF m 45 #[.val (.ref a), .val (.ref s'), .val (.int (0 : Int32)), .val (.int (3 : Int32)), .val .null, .val (.ref b3)] [(.int (3 : Int32)), (.ref b3), (.ref a)]))) (fun _ kk => XS.iloadN X3.here hx rfl (hb hby d2_44) rfl kk) ?_
  obtain ⟨_, _, ⟨T4, L4, k4, n4⟩, -, X4, ⟨Lc4, hQ4, l4, y4, z4⟩, st4⟩ := Jvm.LawKit.callS X3 hx (y := (⟨"java/lang/StringUTF16", "coderFromArrayLen", "([BI)B"⟩ : MethodName)) hown (mvT hZ (hw _ (List.mem_of_getElem? (i := 23) rfl))) (mvT hZ (hw _ (List.mem_of_getElem? (i := 24) rfl))) (mvT hZ (hw _ (List.mem_of_getElem? (i := 17) rfl))) (mvT hZ (hw _ (List.mem_of_getElem? (i := 25) rfl))) (by decide) (backOf (W := 1) (str_cf_3 l Z a0 hw [] b3 k3 _ T3.heap n0 (by first | omega | exact own_ne (by omega) | exact own_le (by omega)) V3) hZ (hw _ (List.mem_of_getElem? (i := 25) rfl)) (hw _ (List.mem_of_getElem? (i := 17) rfl)) (by decide) (by decide)) (g := (mkF m 45 #[.val (.ref a), .val (.ref s'), .val (.int (0 : Int32)), .val (.int (3 : Int32)), .val .null, .val (.ref b3)] [(.int (3 : Int32)), (.ref b3), (.ref a)])) rfl (by rw [hml]; rfl) (argsL := [(.ref b3), (.int (3 : Int32))]) (rest := [(.ref a)]) (lenOf pd___BI_B rfl) rfl (by show 2 * 0 + _ ≤ _; exact Nat.le_of_eq rfl) (hb hby d2_45) (fun _ _ => ⟨rfl, rfl, (by decide : 1 + 0 ≤ _), (by decide : 3 + 0 ≤ _)⟩)
  dsimp only [Pt.U, Pt.locs, Pt.cells, Pt.slots] at X4 l4 y4 z4 st4 hQ4
  subst l4 y4 z4
  obtain ⟨rfl, N4q, e4⟩ := hQ4
  have N4 := Fr.app N3 N4q
  refine go_of (B := (T4.setTop (mkF m 48 #[.val (.ref a), .val (.ref s'), .val (.int (0 : Int32)), .val (.int (3 : Int32)), .val .null, .val (.ref b3)] [(.int (0 : Int32)), (.ref a)]))) (st4) ?_
  have cf_5 := (E.keep K3)
  have cf_6 := (F2.keep K3 nin0)
  obtain ⟨T7, h7, X7, e7, W7, st7⟩ := putFN X4 hx hZ hown (hw _ (List.mem_of_getElem? (i := 26) rfl)) Via.refl e4 cf_6 cf_5 (Or.inr ⟨(hw _ (List.mem_of_getElem? (i := 27) rfl)), rfl, hnm⟩) (hw _ (List.mem_of_getElem? (i := 2) rfl)) (ty := .byte) (v' := (.int (nar .byte (0 : Int32)))) (by decide) rfl (fits_nar_byte _) (g := (mkF m 48 #[.val (.ref a), .val (.ref s'), .val (.int (0 : Int32)), .val (.int (3 : Int32)), .val .null, .val (.ref b3)] [(.int (0 : Int32)), (.ref a)])) rfl rfl (hb hby d2_48)
  have sz7 := W7.size
  have Fw7 := cf_6.same W7
  have N7 := Fr.snoc X7 N4 (g : n0 ≤ a)
  refine go_of (B := (T7.setTop (mkF m 51 #[.val (.ref a), .val (.ref s'), .val (.int (0 : Int32)), .val (.int (3 : Int32)), .val .null, .val (.ref b3)] []))) (st7) ?_
  refine go_of (B := (T7.setTop (mkF m 52 #[.val (.ref a), .val (.ref s'), .val (.int (0 : Int32)), .val (.int (3 : Int32)), .val .null, .val (.ref b3)] [(.ref a)]))) (fun _ kk => XS.aloadN X7.here hx rfl (hb hby d2_51) rfl rfl kk) ?_
  refine go_of (B := (T7.setTop (mkF m 54 #[.val (.ref a), .val (.ref s'), .val (.int (0 : Int32)), .val (.int (3 : Int32)), .val .null, .val (.ref b3)] [(.ref b3), (.ref a)]))) (fun _ kk => XS.aload X7.here hx rfl (hb hby d2_52) rfl rfl kk) ?_
  have cf_8 := (cf_5.wr W7)
  have cf_9 := ((F.keep K3 nin0).other W7 (Or.inr (slot_ne (Or.inr (hw _ (List.mem_of_getElem? (i := 29) rfl))) (Or.inr (hw _ (List.mem_of_getElem? (i := 27) rfl))) (by decide) (t := (.array .byte)) (t' := .byte) (by decide) (by decide))))
  obtain ⟨T10, h10, X10, e10, W10, st10⟩ := putF X7 hx hZ hown (host := "") (Or.inl (hw _ (List.mem_of_getElem? (i := 28) rfl))) Via.refl e7 cf_9 cf_8 (Or.inr ⟨(hw _ (List.mem_of_getElem? (i := 29) rfl)), rfl, hnm⟩) (hw _ (List.mem_of_getElem? (i := 2) rfl)) (ty := (.array .byte)) (by decide) rfl rfl (g := (mkF m 54 #[.val (.ref a), .val (.ref s'), .val (.int (0 : Int32)), .val (.int (3 : Int32)), .val .null, .val (.ref b3)] [(.ref b3), (.ref a)])) rfl rfl (hb hby d2_54)
  have sz10 := W10.size
  have Fw10 := cf_9.same W10
  have N10 := Fr.snoc X10 N7 (g : n0 ≤ a)
  refine go_of (B := (T10.setTop (mkF m 57 #[.val (.ref a), .val (.ref s'), .val (.int (0 : Int32)), .val (.int (3 : Int32)), .val .null, .val (.ref b3)] []))) (st10) ?_
  have cf_11 := ((V3.other W7 (by first | omega | exact own_ne (by omega) | exact own_le (by omega))).other W10 (by first | omega | exact own_ne (by omega) | exact own_le (by omega)))
  have cf_12 := (Fw7.other W10 (Or.inr (slot_ne (Or.inr (hw _ (List.mem_of_getElem? (i := 27) rfl))) (Or.inr (hw _ (List.mem_of_getElem? (i := 29) rfl))) (by decide) (t := .byte) (t' := (.array .byte)) (by decide) (by decide))))
  have cf_13 := (cf_8.wr W10)
  refine go_end X10 (v := none) (fun _ => rfl) Bd.notSynchronized (by decide) (by decide) (Q := (Q_str_i4_3 Z a s' c0 c1 c2 ks gC u u2 h0 n0)) ?_ (fun fs hr => X10.returnOut hx Bd.returns (hb hby d2_57) hr)
  show (fun (v : Option Value) (h : Heap) (L : List Loc) => v = none ∧ Fr n0 L ∧ Keep h0 h [a] ∧ Str Z h a 3 [c0, c1, c2]) (none) T10.heap _
  rw [e10]
  exact ⟨rfl, N10, ((((Keep.refl h0 [a]).trans K3 all0).wr W7 (Or.inl (List.mem_of_getElem? (i := 0) rfl))).wr W10 (Or.inl (List.mem_of_getElem? (i := 0) rfl))), ⟨b3, k3, cf_13, cf_12, Fw10, cf_11, (own_allc hc0 (own_allc hc1 (own_allc hc2 (fun _ q => nomatch q))))⟩⟩
theorem d1_0 : decode jdk_42_method_3_code 0 = .ok (.aload_n 0, 1) := by decide +kernel
theorem d1_1 : decode jdk_42_method_3_code 1 = .ok (.aload_n 1, 1) := by decide +kernel
theorem d1_2 : decode jdk_42_method_3_code 2 = .ok (.iconst 0, 1) := by decide +kernel
theorem d1_3 : decode jdk_42_method_3_code 3 = .ok (.aload_n 1, 1) := by decide +kernel
theorem d1_4 : decode jdk_42_method_3_code 4 = .ok (.arraylength, 1) := by decide +kernel
theorem d1_5 : decode jdk_42_method_3_code 5 = .ok (.aconst_null, 1) := by decide +kernel
theorem d1_6 : decode jdk_42_method_3_code 6 = .ok (.invokespecial 27, 3) := by decide +kernel
theorem pd___CIILjava_lang_Void__V : parseMethodDescriptor "([CIILjava/lang/Void;)V" = some ⟨[(.array .char), .int, .int, (.object "java/lang/Void")], none⟩ := by decide +kernel
theorem d1_9 : decode jdk_42_method_3_code 9 = .ok (.return_, 1) := by decide +kernel
def Q_str_i1_3 (Z : State) (a : Addr) (s' : Addr) (c0 : Int32) (c1 : Int32) (c2 : Int32) (ks : ClassId) (gC : Int32) (u : Value) (u2 : Value) (h0 : Heap) (n0 : Nat) (v : Option Value) (h : Heap) (L : List Loc) : Prop := v = none ∧ Fr n0 L ∧ Keep h0 h [a] ∧ Str Z h a 3 [c0, c1, c2]
theorem ef_str_i1_3 (m : MethodId) (a : Addr) (s' : Addr)  : entryFrame m #[(.ref a), (.ref s')] 2 = mkF m 0 #[.val (.ref a), .val (.ref s')] [] := by first | (simp [entryFrame, mkF, argsToLocals, Value.category]; done) | rfl
set_option maxRecDepth 65536 in
set_option maxHeartbeats 40000000 in
theorem str_i1_3 (l : Launch) (Z : State) (a0 : Array Value) (hw : ∀ d ∈ tables_1, d.before a0 Z = true) (ws : List Jvm.Cond) (a : Addr) (s' : Addr) (c0 : Int32) (c1 : Int32) (c2 : Int32) (ks : ClassId) (gC : Int32) (u : Value) (u2 : Value) (h0 : Heap) (n0 : Nat) (Z0 : n0 ≤ h0.size) (O : Old Z n0 h0) (SC : Sta Z Z.heap "java/lang/String" "COMPACT_STRINGS" "Z" (.int gC)) (hgC : ¬ gC = (0 : Int32)) (E : Exa Z h0 a "java/lang/String") (F : Fld Z h0 a "java/lang/String" "value" "[B" u) (F2 : Fld Z h0 a "java/lang/String" "coder" "B" u2) (g : n0 ≤ a) (Vs : Arv Z h0 s' ks .char 3 [(.int c0), (.int c1), (.int c2)] (.int 0)) (hc0 : ¬ c0 < 0 ∧ ¬ (255 : Int32) < c0) (hc1 : ¬ c1 < 0 ∧ ¬ (255 : Int32) < c1) (hc2 : ¬ c2 < 0 ∧ ¬ (255 : Int32) < c2) :
    MetFree l (⟨"java/lang/String", "<init>", "([C)V"⟩ : MethodName) (head1 (Jvm.Cond.code (⟨"java/lang/String", "<init>", "([C)V"⟩ : MethodName) jdk_42_method_3_code 2 none :: ws) ({ frames := 3, cells := 1, slots := 3, locals := 52 } : Room)) (fun aa' U1' => aa' = #[(.ref a), (.ref s')] ∧ Z.Warmed39 U1'.vm ∧ U1'.heap = h0) (fun _ _ _ _ _ => True) (fun _ U1' oo' U2' => ∃ vv' LL', oo' = .returned vv' ∧ (Q_str_i1_3 Z a s' c0 c1 c2 ks gC u u2 h0 n0) vv' U2'.heap LL' ∧ FrameEnd U1' oo' U2' LL' ({ frames := 3, cells := 1, slots := 3, locals := 52 } : Room).cells ({ frames := 3, cells := 1, slots := 3, locals := 52 } : Room).slots) := by
  refine MetFree.of_bodySF (plainFor_of_name pn_java_lang_String) hisR ?_
  intro p e s m args below meth c s₁ Bd hml0 hP hK
  obtain ⟨rfl, hZ, hh⟩ := hP
  have hx := Bd.exec
  have hby := Bd.bytes
  have hml : c.maxLocals = 2 := hml0
  have hown : s.vm.findClass "java/lang/String" = some m.cls := findClass_of_methodNamed Bd.named
  have hnm := (name_of_methodNamed Bd.named Bd.method).1
  have X0 : Stand p l e ({ frames := 3, cells := 1, slots := 3, locals := 52 } : Room) s m #[(.ref a), (.ref s')] below meth c s₁ [] 0 0 := Stand.of_body Bd
  have e0 : s₁.heap = h0 := by rw [← hh, Bd.state]; rfl
  have N0 := Fr.nil n0
  have lta := own_nlt (E.lt)
  have lts := own_nlt (Vs.lt)
  refine go_of (A := s₁.setTop (entryFrame m #[(.ref a), (.ref s')] 2)) (B := s₁.setTop (mkF m 0 #[.val (.ref a), .val (.ref s')] [])) (fun _ kk' => castTop (ef_str_i1_3 m a s') kk') ?_
  refine go_of (B := (s₁.setTop (mkF m 1 #[.val (.ref a), .val (.ref s')] [(.ref a)]))) (fun _ kk => XS.aloadN X0.here hx rfl (hb hby d1_0) rfl rfl kk) ?_
  refine go_of (B := (s₁.setTop (mkF m 2 #[.val (.ref a), .val (.ref s')] [(.ref s'), (.ref a)]))) (fun _ kk => XS.aloadN X0.here hx rfl (hb hby d1_1) rfl rfl kk) ?_
  refine go_of (B := (s₁.setTop (mkF m 3 #[.val (.ref a), .val (.ref s')] [(.int (0 : Int32)), (.ref s'), (.ref a)]))) (fun _ kk => XS.iconst X0.here hx rfl (hb hby d1_2) kk) ?_
  refine go_of (B := (s₁.setTop (mkF m 4 #[.val (.ref a), .val (.ref s')] [(.ref s'), (.int (0 : Int32)), (.ref s'), (.ref a)]))) (fun _ kk => XS.aloadN X0.here hx rfl (hb hby d1_3) rfl rfl kk) ?_
  obtain ⟨cl1, Ar1, q1, Sz1, Nn1, Hh1, G1⟩ := id (Vs)
  have ln1 := len_of Sz1 Nn1
  refine go_of (B := (s₁.setTop (mkF m 5 #[.val (.ref a), .val (.ref s')] [(.int (3 : Int32)), (.int (0 : Int32)), (.ref s'), (.ref a)]))) (fun _ kk => X0.arraylength hx (by rw [e0]; exact Ar1.1) (State.isArrayOf_alike hZ.alike Ar1.2.1) (g := (mkF m 4 #[.val (.ref a), .val (.ref s')] [(.ref s'), (.int (0 : Int32)), (.ref s'), (.ref a)])) rfl rfl (hb hby d1_4) _ (by rw [ln1]; exact kk)) ?_
  refine go_of (B := (s₁.setTop (mkF m 6 #[.val (.ref a), .val (.ref s')] [.null, (.int (3 : Int32)), (.int (0 : Int32)), (.ref s'), (.ref a)]))) (fun _ kk => XS.aconstNull X0.here hx rfl (hb hby d1_5) kk) ?_
  obtain ⟨_, _, ⟨T2, L2, k2, n2⟩, -, X2, ⟨Lc2, hQ2, l2, y2, z2⟩, st2⟩ := X0.specialBack hx (y := (⟨"java/lang/String", "<init>", "([CIILjava/lang/Void;)V"⟩ : MethodName)) rfl hown (mvT hZ (hw _ (List.mem_of_getElem? (i := 7) rfl))) (mvT hZ (hw _ (List.mem_of_getElem? (i := 8) rfl))) (mvT hZ (hw _ (List.mem_of_getElem? (i := 10) rfl))) (by decide) (backOf (W := 0) (str_i4_3 l Z a0 hw [] a s' c0 c1 c2 ks gC u u2 h0 n0 Z0 O SC hgC E F F2 g Vs hc0 hc1 hc2) hZ (hw _ (List.mem_of_getElem? (i := 10) rfl)) (hw _ (List.mem_of_getElem? (i := 3) rfl)) (by decide) (by decide)) (g := (mkF m 6 #[.val (.ref a), .val (.ref s')] [.null, (.int (3 : Int32)), (.int (0 : Int32)), (.ref s'), (.ref a)])) rfl (by rw [hml]; rfl) (Steps.refl _) (a := a) (argsL := [(.ref s'), (.int (0 : Int32)), (.int (3 : Int32)), .null]) (rest := []) (lenOf pd___CIILjava_lang_Void__V rfl) rfl (by show 2 * 0 + _ ≤ _; exact Nat.le_of_eq rfl) (hb hby d1_6) (fun _ _ => ⟨rfl, e0, (by decide : 0 + 1 ≤ _), (by decide : 0 + 3 ≤ _)⟩)
  dsimp only [Pt.U, Pt.locs, Pt.cells, Pt.slots] at X2 l2 y2 z2 st2 hQ2
  subst l2 y2 z2
  obtain ⟨rfl, N2q, K2, S2⟩ := hQ2
  have N2 := Fr.app N0 N2q
  have sz2 := K2.1
  refine go_tr (B := (T2.setTop (mkF m 9 #[.val (.ref a), .val (.ref s')] []))) (st2) ?_
  refine go_end X2 (v := none) (fun _ => rfl) Bd.notSynchronized (by decide) (by decide) (Q := (Q_str_i1_3 Z a s' c0 c1 c2 ks gC u u2 h0 n0)) ?_ (fun fs hr => X2.returnOut hx Bd.returns (hb hby d1_9) hr)
  show (fun (v : Option Value) (h : Heap) (L : List Loc) => v = none ∧ Fr n0 L ∧ Keep h0 h [a] ∧ Str Z h a 3 [c0, c1, c2]) (none) T2.heap _
  exact ⟨rfl, N2, ((Keep.refl h0 [a]).trans K2 (allS (Or.inl (List.mem_of_getElem? (i := 0) rfl)) all0)), S2⟩
/-- a byte[] by a function -/
def Tab (Z : State) (h : Heap) (a : Addr) (n : Nat) (f : Nat → Int32) : Prop := ∃ c : Cell, Arr Z h a c .byte ∧ c.slots.size = n ∧ ∀ i, i < n → c.slots[i]? = some (.int (f i))
theorem Tab.lt {Z : State} {h : Heap} {a : Addr} {n : Nat} {f : Nat → Int32} (F : Tab Z h a n f) : a < h.size := by obtain ⟨c, A, -⟩ := F; exact A.lt
theorem Tab.ext {Z : State} {h h' : Heap} {a : Addr} {n : Nat} {f : Nat → Int32} (F : Tab Z h a n f) (E : Ext h h') : Tab Z h' a n f := by obtain ⟨c, A, r⟩ := F; exact ⟨c, A.ext E, r⟩
theorem Tab.cong {Z : State} {h : Heap} {a : Addr} {n : Nat} {f g : Nat → Int32} (F : Tab Z h a n f) (e : ∀ i, i < n → f i = g i) : Tab Z h a n g := by obtain ⟨c, A, r1, r2⟩ := F; exact ⟨c, A, r1, fun i hi => by rw [r2 i hi, e i hi]⟩
theorem Tab.wr {Z : State} {h h' : Heap} {a : Addr} {n : Nat} {f : Nat → Int32} {j : Nat} {v : Int32} (F : Tab Z h a n f) (W : Wr h h' a j (.int v)) (hj : j < n) : Tab Z h' a n (fun i => if i = j then v else f i) := by
  obtain ⟨c, A, r1, r2⟩ := F
  refine ⟨_, A.same W, by simp [Cell.setSlot, r1], fun i hi => ?_⟩
  by_cases q : i = j
  · subst q; simp [Cell.setSlot, r1, hi]
  · show _ = some (Value.int (if i = j then v else f i))
    rw [if_neg q, ← r2 i hi]; exact Array.getElem?_setIfInBounds_ne (Ne.symm q)
theorem Tab.new {Z : State} {h : Heap} {a : Addr} {k : ClassId} (A : Arr Z h a (newA k .byte (128 : Int32)) .byte) : Tab Z h a 128 (fun _ => 0) := by
  have e : (newA k .byte (128 : Int32)).slots.size = 128 := sz_new _ _ _
  refine ⟨_, A, e, fun i hi => ?_⟩
  have e2 : (newA k .byte (128 : Int32)).slots = Array.replicate 128 (.int 0) := rfl
  rw [e2, Array.getElem?_replicate]; simp [hi]
theorem own_inb {i : Int32} {j : Nat} {c : Cell} (h : i.toInt = (j : Int)) (hj : j < c.slots.size) : ¬ (i < 0 ∨ c.slots.size ≤ i.toNatClampNeg) := by
  rw [Int32.lt_iff_toInt_lt, h]; have z : (0 : Int32).toInt = 0 := rfl
  have e : i.toNatClampNeg = j := by simp [Int32.toNatClampNeg, h]
  rw [e]; omega
theorem own_clamp {i : Int32} {j : Nat} (h : i.toInt = (j : Int)) : i.toNatClampNeg = j := by simp [Int32.toNatClampNeg, h]
def own_fill (j i : Nat) : Int32 := if i < j then -1 else 0

theorem own_jlt {i : Int32} {j : Nat} (hi : i.toInt = (j : Int)) (h : i < (128 : Int32)) : j < 128 := by rw [Int32.lt_iff_toInt_lt, hi] at h; have e : (128 : Int32).toInt = 128 := rfl; omega
theorem own_jge {i : Int32} {j : Nat} (hi : i.toInt = (j : Int)) (h : ¬ i < (128 : Int32)) : 128 ≤ j := by rw [Int32.lt_iff_toInt_lt, hi] at h; have e : (128 : Int32).toInt = 128 := rfl; omega
theorem own_fill_s (j k : Nat) : (if k = j then (-1 : Int32).toInt8.toInt32 else own_fill j k) = own_fill (j + 1) k := by
  unfold own_fill
  by_cases q : k = j
  · subst q; rw [if_pos rfl, if_pos (Nat.lt_succ_self _)]; rfl
  · rw [if_neg q]; by_cases r : k < j
    · rw [if_pos r, if_pos (by omega)]
    · rw [if_neg r, if_neg (by omega)]
theorem own_fill_e {j k : Nat} (h : 128 ≤ j) (hk : k < 128) : own_fill j k = -1 := by unfold own_fill; rw [if_pos (by omega)]
def Q_rm8 (Z : State) (t : Addr) (h0 : Heap) (n0 : Nat) (v : Option Value) (h : Heap) (L : List Loc) : Prop := v = none ∧ Fr n0 L ∧ Keep h0 h [t] ∧ Tab Z h t 128 (fun _ => -1)
theorem d8_5 : decode jdk_65_method_109_code 5 = .ok (.iload_n 2, 1) := by decide +kernel
theorem d8_6 : decode jdk_65_method_109_code 6 = .ok (.iload_n 3, 1) := by decide +kernel
theorem d8_7 : decode jdk_65_method_109_code 7 = .ok (.if_icmp .ge 13, 3) := by decide +kernel
theorem d8_10 : decode jdk_65_method_109_code 10 = .ok (.aload_n 0, 1) := by decide +kernel
theorem d8_11 : decode jdk_65_method_109_code 11 = .ok (.iload_n 2, 1) := by decide +kernel
theorem d8_12 : decode jdk_65_method_109_code 12 = .ok (.iload_n 1, 1) := by decide +kernel
theorem d8_13 : decode jdk_65_method_109_code 13 = .ok (.bastore, 1) := by decide +kernel
theorem d8_14 : decode jdk_65_method_109_code 14 = .ok (.iinc 2 1, 3) := by decide +kernel
theorem d8_17 : decode jdk_65_method_109_code 17 = .ok (.goto (-12), 3) := by decide +kernel
theorem d8_20 : decode jdk_65_method_109_code 20 = .ok (.return_, 1) := by decide +kernel
set_option maxRecDepth 65536 in
set_option maxHeartbeats 40000000 in
theorem fl5 {p : Program} {l : Launch} {e : Env} {s : State} {m : MethodId} {args : Array Value} {below : List Frame} {meth : Method} {c : Code} {Z : State} {a0 : Array Value} {h0 : Heap} {n0 : Nat} (t : Addr) (i : Int32) (j : Nat) (hS : Heap) {T0 : State} {locs : List Loc}
    (X0 : Stand p l e ({ frames := 0, cells := 0, slots := 0, locals := 0 } : Room) s m args below meth c T0 locs 0 0) (hx : p.tables.exec = Jvm.exec) (hZ : Z.Warmed39 s.vm) (hw : ∀ d ∈ tables_1, d.before a0 Z = true) (hby : c.code = jdk_65_method_109_code) (hml : c.maxLocals = 4) (hown : s.vm.findClass "java/util/Arrays" = some m.cls) (hret : meth.sig.returnType = none) (hlk : meth.locks = false) (e0 : T0.heap = h0) (N0 : Fr n0 locs) (Z0 : n0 ≤ h0.size) (hi : i.toInt = (j : Int)) (g : n0 ≤ t) (KS : Keep hS h0 [t]) (F : Tab Z h0 t 128 (own_fill j)) (hk : i < (128 : Int32) → ∀ (T' : State) (h' : Heap) (locs' : List Loc), Stand p l e ({ frames := 0, cells := 0, slots := 0, locals := 0 } : Room) s m args below meth c T' locs' 0 0 → T'.heap = h' → Fr n0 locs' → Keep hS h' [t] → n0 ≤ h'.size → Tab Z h' t 128 (own_fill (j + 1)) → Go p e below (T'.setTop (mkF m 5 #[.val (.ref t), .val (.int (-1 : Int32)), .val (.int (i + (1 : Int32))), .val (.int (128 : Int32))] [])) (fun oo' U2' => ∃ vv' LL', oo' = .returned vv' ∧ (Q_rm8 Z t hS n0) vv' U2'.heap LL' ∧ FrameEnd s oo' U2' LL' ({ frames := 0, cells := 0, slots := 0, locals := 0 } : Room).cells ({ frames := 0, cells := 0, slots := 0, locals := 0 } : Room).slots)) :
    Go p e below (T0.setTop (mkF m 5 #[.val (.ref t), .val (.int (-1 : Int32)), .val (.int i), .val (.int (128 : Int32))] [])) (fun oo' U2' => ∃ vv' LL', oo' = .returned vv' ∧ (Q_rm8 Z t hS n0) vv' U2'.heap LL' ∧ FrameEnd s oo' U2' LL' ({ frames := 0, cells := 0, slots := 0, locals := 0 } : Room).cells ({ frames := 0, cells := 0, slots := 0, locals := 0 } : Room).slots) := by
  refine go_of (B := (T0.setTop (mkF m 6 #[.val (.ref t), .val (.int (-1 : Int32)), .val (.int i), .val (.int (128 : Int32))] [(.int i)]))) (fun _ kk => XS.iloadN X0.here hx rfl (hb hby d8_5) rfl kk) ?_
  refine go_of (B := (T0.setTop (mkF m 7 #[.val (.ref t), .val (.int (-1 : Int32)), .val (.int i), .val (.int (128 : Int32))] [(.int (128 : Int32)), (.int i)]))) (fun _ kk => XS.iloadN X0.here hx rfl (hb hby d8_6) rfl kk) ?_
  by_cases hc1 : i < (128 : Int32)
  · refine go_of (B := (T0.setTop (mkF m 10 #[.val (.ref t), .val (.int (-1 : Int32)), .val (.int i), .val (.int (128 : Int32))] []))) (fun _ kk => XS.icmpNo X0.here hx rfl (hb hby d8_7) rfl (tlt hc1).2.1 kk) ?_
    refine go_of (B := (T0.setTop (mkF m 11 #[.val (.ref t), .val (.int (-1 : Int32)), .val (.int i), .val (.int (128 : Int32))] [(.ref t)]))) (fun _ kk => XS.aloadN X0.here hx rfl (hb hby d8_10) rfl rfl kk) ?_
    refine go_of (B := (T0.setTop (mkF m 12 #[.val (.ref t), .val (.int (-1 : Int32)), .val (.int i), .val (.int (128 : Int32))] [(.int i), (.ref t)]))) (fun _ kk => XS.iloadN X0.here hx rfl (hb hby d8_11) rfl kk) ?_
    refine go_of (B := (T0.setTop (mkF m 13 #[.val (.ref t), .val (.int (-1 : Int32)), .val (.int i), .val (.int (128 : Int32))] [(.int (-1 : Int32)), (.int i), (.ref t)]))) (fun _ kk => XS.iloadN X0.here hx rfl (hb hby d8_12) rfl kk) ?_
    have hj : j < 128 := own_jlt hi (by simpa using hc1)
    obtain ⟨cl2, Ar2, Sz2, Hh2⟩ := id F
    obtain ⟨T2, h2, X2, e2, W2, st2⟩ := stB X0 hx hZ e0 Ar2 (j := i) (own_inb hi (by rw [Sz2]; exact hj)) (g := (mkF m 13 #[.val (.ref t), .val (.int (-1 : Int32)), .val (.int i), .val (.int (128 : Int32))] [(.int (-1 : Int32)), (.int i), (.ref t)])) rfl rfl (hb hby d8_13)
    have N2 := Fr.snoc X2 N0 (g : n0 ≤ t)
    rw [own_clamp hi] at W2
    have sz2 := W2.size
    refine go_of (B := (T2.setTop (mkF m 14 #[.val (.ref t), .val (.int (-1 : Int32)), .val (.int i), .val (.int (128 : Int32))] []))) (st2) ?_
    refine go_of (B := (T2.setTop (mkF m 17 #[.val (.ref t), .val (.int (-1 : Int32)), .val (.int (i + (1 : Int32))), .val (.int (128 : Int32))] []))) (fun _ kk => XS.iinc X2.here hx rfl (hb hby d8_14) rfl rfl kk) ?_
    refine go_of (B := (T2.setTop (mkF m 5 #[.val (.ref t), .val (.int (-1 : Int32)), .val (.int (i + (1 : Int32))), .val (.int (128 : Int32))] []))) (fun _ kk => XS.goto X2.here hx rfl (pc0 := 17) (pc' := 5) rfl (hb hby d8_17) (by decide) (by decide) kk) ?_
    exact hk (by simpa using hc1) _ _ _ X2 e2 N2 (KS.wr W2 (Or.inl (List.mem_of_getElem? (i := 0) rfl))) (by rw [sz2]; exact Z0) ((F.wr W2 (own_jlt hi (by simpa using hc1))).cong (fun k hk => own_fill_s j k))
  · refine go_of (B := (T0.setTop (mkF m 20 #[.val (.ref t), .val (.int (-1 : Int32)), .val (.int i), .val (.int (128 : Int32))] []))) (fun _ kk => XS.icmpYes X0.here hx rfl (pc0 := 7) (pc' := 20) rfl (hb hby d8_7) rfl (flt hc1).2.1 (by decide) (by decide) kk) ?_
    refine go_end X0 (v := none) (fun _ => rfl) hlk (by decide) (by decide) (Q := (Q_rm8 Z t hS n0)) ?_ (fun fs hr => X0.returnOut hx hret (hb hby d8_20) hr)
    show (fun (v : Option Value) (h : Heap) (L : List Loc) => v = none ∧ Fr n0 L ∧ Keep hS h [t] ∧ Tab Z h t 128 (fun _ => -1)) (none) T0.heap _
    rw [e0]
    exact ⟨rfl, N0, KS, F.cong (fun k hk => own_fill_e (own_jge hi (by simpa using hc1)) hk)⟩
theorem fl_loop {p : Program} {l : Launch} {e : Env} {s : State} {m : MethodId} {args : Array Value} {below : List Frame} {meth : Method} {c : Code} {Z : State} {a0 : Array Value} {n0 : Nat} (t : Addr) (hS : Heap) (g : n0 ≤ t) (hx : p.tables.exec = Jvm.exec) (hZ : Z.Warmed39 s.vm) (hw : ∀ d ∈ tables_1, d.before a0 Z = true) (hby : c.code = jdk_65_method_109_code) (hml : c.maxLocals = 4) (hown : s.vm.findClass "java/util/Arrays" = some m.cls) (hret : meth.sig.returnType = none) (hlk : meth.locks = false) (k : Nat) :
    ∀ (i : Int32) (j : Nat) (T0 : State) (h0 : Heap) (locs : List Loc), j + k = 128 → i.toInt = (j : Int) → Stand p l e ({ frames := 0, cells := 0, slots := 0, locals := 0 } : Room) s m args below meth c T0 locs 0 0 → T0.heap = h0 → Fr n0 locs → Keep hS h0 [t] → n0 ≤ h0.size → Tab Z h0 t 128 (own_fill j) → Go p e below (T0.setTop (mkF m 5 #[.val (.ref t), .val (.int (-1 : Int32)), .val (.int i), .val (.int (128 : Int32))] [])) (fun oo' U2' => ∃ vv' LL', oo' = .returned vv' ∧ (Q_rm8 Z t hS n0) vv' U2'.heap LL' ∧ FrameEnd s oo' U2' LL' ({ frames := 0, cells := 0, slots := 0, locals := 0 } : Room).cells ({ frames := 0, cells := 0, slots := 0, locals := 0 } : Room).slots) := by
  induction k with
  | zero =>
    intro i j T0 h0 locs hjk hi X e0 N K Z0 F
    exact fl5 t i j hS X hx hZ hw hby hml hown hret hlk e0 N Z0 hi g K F (fun h => absurd (own_jlt hi h) (by omega))
  | succ k ih =>
    intro i j T0 h0 locs hjk hi X e0 N K Z0 F
    refine fl5 t i j hS X hx hZ hw hby hml hown hret hlk e0 N Z0 hi g K F (fun h T' h' locs' X' e' N' K' Z' F' => ih _ (j + 1) T' h' locs' (by omega) ?_ X' e' N' K' Z' F')
    have q := c_iadd i 1; have r := rng32 (i + 1); have o : (1 : Int32).toInt = 1 := rfl; omega
theorem d8_0 : decode jdk_65_method_109_code 0 = .ok (.iconst 0, 1) := by decide +kernel
theorem d8_1 : decode jdk_65_method_109_code 1 = .ok (.istore_n 2, 1) := by decide +kernel
theorem d8_2 : decode jdk_65_method_109_code 2 = .ok (.aload_n 0, 1) := by decide +kernel
theorem d8_3 : decode jdk_65_method_109_code 3 = .ok (.arraylength, 1) := by decide +kernel
theorem d8_4 : decode jdk_65_method_109_code 4 = .ok (.istore_n 3, 1) := by decide +kernel
theorem pn_java_util_Arrays : plainName "java/util/Arrays" = true := by first | (simp [plainName, overriddenIn]; done) | decide +kernel
theorem ef_rm8 (m : MethodId) (t : Addr)  : entryFrame m #[(.ref t), (.int (-1 : Int32))] 4 = mkF m 0 #[.val (.ref t), .val (.int (-1 : Int32)), .unset, .unset] [] := by first | (simp [entryFrame, mkF, argsToLocals, Value.category]; done) | rfl
set_option maxRecDepth 65536 in
set_option maxHeartbeats 40000000 in
theorem rm8 (l : Launch) (Z : State) (a0 : Array Value) (hw : ∀ d ∈ tables_1, d.before a0 Z = true) (ws : List Jvm.Cond) (t : Addr) (h0 : Heap) (n0 : Nat) (Z0 : n0 ≤ h0.size) (g : n0 ≤ t) (F : Tab Z h0 t 128 (own_fill 0)) :
    MetFree l (⟨"java/util/Arrays", "fill", "([BB)V"⟩ : MethodName) (head1 (Jvm.Cond.code (⟨"java/util/Arrays", "fill", "([BB)V"⟩ : MethodName) jdk_65_method_109_code 4 none :: ws) ({ frames := 0, cells := 0, slots := 0, locals := 0 } : Room)) (fun aa' U1' => aa' = #[(.ref t), (.int (-1 : Int32))] ∧ Z.Warmed39 U1'.vm ∧ U1'.heap = h0) (fun _ _ _ _ _ => True) (fun _ U1' oo' U2' => ∃ vv' LL', oo' = .returned vv' ∧ (Q_rm8 Z t h0 n0) vv' U2'.heap LL' ∧ FrameEnd U1' oo' U2' LL' ({ frames := 0, cells := 0, slots := 0, locals := 0 } : Room).cells ({ frames := 0, cells := 0, slots := 0, locals := 0 } : Room).slots) := by
  refine MetFree.of_bodySF (plainFor_of_name pn_java_util_Arrays) hisR ?_
  intro p e s m args below meth c s₁ Bd hml0 hP hK
  obtain ⟨rfl, hZ, hh⟩ := hP
  have hx := Bd.exec
  have hby := Bd.bytes
  have hml : c.maxLocals = 4 := hml0
  have hown : s.vm.findClass "java/util/Arrays" = some m.cls := findClass_of_methodNamed Bd.named
  have hnm := (name_of_methodNamed Bd.named Bd.method).1
  have X0 : Stand p l e ({ frames := 0, cells := 0, slots := 0, locals := 0 } : Room) s m #[(.ref t), (.int (-1 : Int32))] below meth c s₁ [] 0 0 := Stand.of_body Bd
  have e0 : s₁.heap = h0 := by rw [← hh, Bd.state]; rfl
  have N0 := Fr.nil n0
  refine go_of (A := s₁.setTop (entryFrame m #[(.ref t), (.int (-1 : Int32))] 4)) (B := s₁.setTop (mkF m 0 #[.val (.ref t), .val (.int (-1 : Int32)), .unset, .unset] [])) (fun _ kk' => castTop (ef_rm8 m t) kk') ?_
  refine go_of (B := (s₁.setTop (mkF m 1 #[.val (.ref t), .val (.int (-1 : Int32)), .unset, .unset] [(.int (0 : Int32))]))) (fun _ kk => XS.iconst X0.here hx rfl (hb hby d8_0) kk) ?_
  refine go_of (B := (s₁.setTop (mkF m 2 #[.val (.ref t), .val (.int (-1 : Int32)), .val (.int (0 : Int32)), .unset] []))) (fun _ kk => XS.istoreN X0.here hx rfl (hb hby d8_1) rfl rfl kk) ?_
  refine go_of (B := (s₁.setTop (mkF m 3 #[.val (.ref t), .val (.int (-1 : Int32)), .val (.int (0 : Int32)), .unset] [(.ref t)]))) (fun _ kk => XS.aloadN X0.here hx rfl (hb hby d8_2) rfl rfl kk) ?_
  obtain ⟨cl3, Ar3, Sz3, -⟩ := id F
  have ln3 : cl3.slots.size.toInt32 = (128 : Int32) := by rw [Sz3]; rfl
  refine go_of (B := (s₁.setTop (mkF m 4 #[.val (.ref t), .val (.int (-1 : Int32)), .val (.int (0 : Int32)), .unset] [(.int (128 : Int32))]))) (fun _ kk => X0.arraylength hx (by rw [e0]; exact Ar3.1) (State.isArrayOf_alike hZ.alike Ar3.2.1) (g := (mkF m 3 #[.val (.ref t), .val (.int (-1 : Int32)), .val (.int (0 : Int32)), .unset] [(.ref t)])) rfl rfl (hb hby d8_3) _ (by rw [ln3]; exact kk)) ?_
  refine go_of (B := (s₁.setTop (mkF m 5 #[.val (.ref t), .val (.int (-1 : Int32)), .val (.int (0 : Int32)), .val (.int (128 : Int32))] []))) (fun _ kk => XS.istoreN X0.here hx rfl (hb hby d8_4) rfl rfl kk) ?_
  exact fl_loop t h0 g hx hZ hw hby hml hown Bd.returns Bd.notSynchronized 128 _ 0 _ _ _ rfl rfl X0 e0 N0 (Keep.refl _ _) Z0 F
theorem d10_0 : decode jdk_42_method_152_code 0 = .ok (.getstatic 38, 3) := by decide +kernel
theorem d10_3 : decode jdk_42_method_152_code 3 = .ok (.ifCond .eq 10, 3) := by decide +kernel
theorem d10_6 : decode jdk_42_method_152_code 6 = .ok (.aload_n 0, 1) := by decide +kernel
theorem d10_7 : decode jdk_42_method_152_code 7 = .ok (.getfield 15, 3) := by decide +kernel
theorem d10_10 : decode jdk_42_method_152_code 10 = .ok (.goto 4, 3) := by decide +kernel
theorem d10_14 : decode jdk_42_method_152_code 14 = .ok (.ireturn, 1) := by decide +kernel
def Q_str_coder (Z : State) (a : Addr) (gC : Int32) (h0 : Heap) (n0 : Nat) (v : Option Value) (h : Heap) (L : List Loc) : Prop := v = some (.int 0) ∧ Fr n0 L ∧ h = h0
theorem ef_str_coder (m : MethodId) (a : Addr)  : entryFrame m #[(.ref a)] 1 = mkF m 0 #[.val (.ref a)] [] := by first | (simp [entryFrame, mkF, argsToLocals, Value.category]; done) | rfl
set_option maxRecDepth 65536 in
set_option maxHeartbeats 40000000 in
theorem str_coder (l : Launch) (Z : State) (a0 : Array Value) (hw : ∀ d ∈ tables_1, d.before a0 Z = true) (ws : List Jvm.Cond) (a : Addr) (gC : Int32) (h0 : Heap) (n0 : Nat) (Z0 : n0 ≤ h0.size) (O : Old Z n0 h0) (SC : Sta Z Z.heap "java/lang/String" "COMPACT_STRINGS" "Z" (.int gC)) (hgC : ¬ gC = (0 : Int32)) (Fc : Fld Z h0 a "java/lang/String" "coder" "B" (.int 0)) :
    MetFree l (⟨"java/lang/String", "coder", "()B"⟩ : MethodName) (head1 (Jvm.Cond.code (⟨"java/lang/String", "coder", "()B"⟩ : MethodName) jdk_42_method_152_code 1 (some .byte) :: ws) ({ frames := 0, cells := 0, slots := 0, locals := 0 } : Room)) (fun aa' U1' => aa' = #[(.ref a)] ∧ Z.Warmed39 U1'.vm ∧ U1'.heap = h0) (fun _ _ _ _ _ => True) (fun _ U1' oo' U2' => ∃ vv' LL', oo' = .returned vv' ∧ (Q_str_coder Z a gC h0 n0) vv' U2'.heap LL' ∧ FrameEnd U1' oo' U2' LL' ({ frames := 0, cells := 0, slots := 0, locals := 0 } : Room).cells ({ frames := 0, cells := 0, slots := 0, locals := 0 } : Room).slots) := by
  refine MetFree.of_bodySF (plainFor_of_name pn_java_lang_String) hisR ?_
  intro p e s m args below meth c s₁ Bd hml0 hP hK
  obtain ⟨rfl, hZ, hh⟩ := hP
  have hx := Bd.exec
  have hby := Bd.bytes
  have hml : c.maxLocals = 1 := hml0
  have hown : s.vm.findClass "java/lang/String" = some m.cls := findClass_of_methodNamed Bd.named
  have hnm := (name_of_methodNamed Bd.named Bd.method).1
  have X0 : Stand p l e ({ frames := 0, cells := 0, slots := 0, locals := 0 } : Room) s m #[(.ref a)] below meth c s₁ [] 0 0 := Stand.of_body Bd
  have e0 : s₁.heap = h0 := by rw [← hh, Bd.state]; rfl
  have N0 := Fr.nil n0
  refine go_of (A := s₁.setTop (entryFrame m #[(.ref a)] 1)) (B := s₁.setTop (mkF m 0 #[.val (.ref a)] [])) (fun _ kk' => castTop (ef_str_coder m a) kk') ?_
  obtain ⟨T1, X1, e1, st1⟩ := getS2 X0 hx hZ hown (host := "") (Or.inl (hw _ (List.mem_of_getElem? (i := 14) rfl))) Via.refl e0 (SC.ext O.2) (g := (mkF m 0 #[.val (.ref a)] [])) rfl (hb hby d10_0)
  refine go_of (B := (T1.setTop (mkF m 3 #[.val (.ref a)] [(.int gC)]))) (st1) ?_
  refine go_of (B := (T1.setTop (mkF m 6 #[.val (.ref a)] []))) (fun _ kk => XS.ifNo X1.here hx rfl (hb hby d10_3) rfl ((if0 _ _).trans (feq hgC).1) kk) ?_
  refine go_of (B := (T1.setTop (mkF m 7 #[.val (.ref a)] [(.ref a)]))) (fun _ kk => XS.aloadN X1.here hx rfl (hb hby d10_6) rfl rfl kk) ?_
  obtain ⟨T2, X2, e2, st2⟩ := getF X1 hx hZ hown (host := "") (Or.inl (hw _ (List.mem_of_getElem? (i := 26) rfl))) Via.refl e1 Fc (g := (mkF m 7 #[.val (.ref a)] [(.ref a)])) rfl rfl (hb hby d10_7)
  refine go_of (B := (T2.setTop (mkF m 10 #[.val (.ref a)] [(.int (0 : Int32))]))) (st2) ?_
  refine go_of (B := (T2.setTop (mkF m 14 #[.val (.ref a)] [(.int (0 : Int32))]))) (fun _ kk => XS.goto X2.here hx rfl (pc0 := 10) (pc' := 14) rfl (hb hby d10_10) (by decide) (by decide) kk) ?_
  refine go_end X2 (v := some (.int (nar .byte (0 : Int32)))) (fun h => by rw [Bd.returns] at h; cases h) Bd.notSynchronized (by decide) (by decide) (Q := (Q_str_coder Z a gC h0 n0)) ?_ (fun fs hr => retN X2 hx (t := .byte) Bd.returns (by simp) (hb hby d10_14) hr)
  show (fun (v : Option Value) (h : Heap) (L : List Loc) => v = some (.int 0) ∧ Fr n0 L ∧ h = h0) (some (.int (nar .byte (0 : Int32)))) T2.heap _
  rw [e2]
  exact ⟨rfl, N0, rfl⟩
theorem d9_0 : decode jdk_42_method_54_code 0 = .ok (.aload_n 0, 1) := by decide +kernel
theorem d9_1 : decode jdk_42_method_54_code 1 = .ok (.getfield 9, 3) := by decide +kernel
theorem d9_4 : decode jdk_42_method_54_code 4 = .ok (.arraylength, 1) := by decide +kernel
theorem d9_5 : decode jdk_42_method_54_code 5 = .ok (.aload_n 0, 1) := by decide +kernel
theorem d9_6 : decode jdk_42_method_54_code 6 = .ok (.invokevirtual 335, 3) := by decide +kernel
theorem pd___B : parseMethodDescriptor "()B" = some ⟨[], some .byte⟩ := by decide +kernel
theorem d9_9 : decode jdk_42_method_54_code 9 = .ok (.ishr, 1) := by decide +kernel
theorem d9_10 : decode jdk_42_method_54_code 10 = .ok (.ireturn, 1) := by decide +kernel
def Q_str_len_3 (Z : State) (a : Addr) (c0 : Int32) (c1 : Int32) (c2 : Int32) (gC : Int32) (h0 : Heap) (n0 : Nat) (v : Option Value) (h : Heap) (L : List Loc) : Prop := v = some (.int 3) ∧ Fr n0 L ∧ h = h0
theorem ef_str_len_3 (m : MethodId) (a : Addr)  : entryFrame m #[(.ref a)] 1 = mkF m 0 #[.val (.ref a)] [] := by first | (simp [entryFrame, mkF, argsToLocals, Value.category]; done) | rfl
set_option maxRecDepth 65536 in
set_option maxHeartbeats 40000000 in
theorem str_len_3 (l : Launch) (Z : State) (a0 : Array Value) (hw : ∀ d ∈ tables_1, d.before a0 Z = true) (ws : List Jvm.Cond) (a : Addr) (c0 : Int32) (c1 : Int32) (c2 : Int32) (gC : Int32) (h0 : Heap) (n0 : Nat) (Z0 : n0 ≤ h0.size) (O : Old Z n0 h0) (SC : Sta Z Z.heap "java/lang/String" "COMPACT_STRINGS" "Z" (.int gC)) (hgC : ¬ gC = (0 : Int32)) (S : Str Z h0 a 3 [c0, c1, c2]) :
    MetFree l (⟨"java/lang/String", "length", "()I"⟩ : MethodName) (head1 (Jvm.Cond.code (⟨"java/lang/String", "length", "()I"⟩ : MethodName) jdk_42_method_54_code 1 (some .int) :: ws) ({ frames := 1, cells := 0, slots := 0, locals := 13 } : Room)) (fun aa' U1' => aa' = #[(.ref a)] ∧ Z.Warmed39 U1'.vm ∧ U1'.heap = h0) (fun _ _ _ _ _ => True) (fun _ U1' oo' U2' => ∃ vv' LL', oo' = .returned vv' ∧ (Q_str_len_3 Z a c0 c1 c2 gC h0 n0) vv' U2'.heap LL' ∧ FrameEnd U1' oo' U2' LL' ({ frames := 1, cells := 0, slots := 0, locals := 13 } : Room).cells ({ frames := 1, cells := 0, slots := 0, locals := 13 } : Room).slots) := by
  refine MetFree.of_bodySF (plainFor_of_name pn_java_lang_String) hisR ?_
  intro p e s m args below meth c s₁ Bd hml0 hP hK
  obtain ⟨rfl, hZ, hh⟩ := hP
  have hx := Bd.exec
  have hby := Bd.bytes
  have hml : c.maxLocals = 1 := hml0
  have hown : s.vm.findClass "java/lang/String" = some m.cls := findClass_of_methodNamed Bd.named
  have hnm := (name_of_methodNamed Bd.named Bd.method).1
  have X0 : Stand p l e ({ frames := 1, cells := 0, slots := 0, locals := 13 } : Room) s m #[(.ref a)] below meth c s₁ [] 0 0 := Stand.of_body Bd
  have e0 : s₁.heap = h0 := by rw [← hh, Bd.state]; rfl
  have N0 := Fr.nil n0
  obtain ⟨t, k, Ea, Fc, Fv, Va, hcs⟩ := S
  have lta := own_nlt (Ea.lt)
  have ltt := own_nlt (Va.lt)
  refine go_of (A := s₁.setTop (entryFrame m #[(.ref a)] 1)) (B := s₁.setTop (mkF m 0 #[.val (.ref a)] [])) (fun _ kk' => castTop (ef_str_len_3 m a) kk') ?_
  refine go_of (B := (s₁.setTop (mkF m 1 #[.val (.ref a)] [(.ref a)]))) (fun _ kk => XS.aloadN X0.here hx rfl (hb hby d9_0) rfl rfl kk) ?_
  obtain ⟨T1, X1, e1, st1⟩ := getF X0 hx hZ hown (host := "") (Or.inl (hw _ (List.mem_of_getElem? (i := 28) rfl))) Via.refl e0 Fv (g := (mkF m 1 #[.val (.ref a)] [(.ref a)])) rfl rfl (hb hby d9_1)
  refine go_of (B := (T1.setTop (mkF m 4 #[.val (.ref a)] [(.ref t)]))) (st1) ?_
  obtain ⟨cl2, Ar2, q2, Sz2, Nn2, Hh2, G2⟩ := id (Va)
  have ln2 := len_of Sz2 Nn2
  refine go_of (B := (T1.setTop (mkF m 5 #[.val (.ref a)] [(.int (3 : Int32))]))) (fun _ kk => X1.arraylength hx (by rw [e1]; exact Ar2.1) (State.isArrayOf_alike hZ.alike Ar2.2.1) (g := (mkF m 4 #[.val (.ref a)] [(.ref t)])) rfl rfl (hb hby d9_4) _ (by rw [ln2]; exact kk)) ?_
  refine go_of (B := (T1.setTop (mkF m 6 #[.val (.ref a)] [(.ref a), (.int (3 : Int32))]))) (fun _ kk => XS.aloadN X1.here hx rfl (hb hby d9_5) rfl rfl kk) ?_
  obtain ⟨cq3, kq3, q3a, q3b, q3c⟩ := isOf hZ e1 Ea
  obtain ⟨_, _, ⟨T3, L3, k3, n3⟩, -, X3, ⟨Lc3, hQ3, l3, y3, z3⟩, st3⟩ := X1.virtualBack hx (y := (⟨"java/lang/String", "coder", "()B"⟩ : MethodName)) (z := (⟨"java/lang/String", "coder", "()B"⟩ : MethodName)) hown (mvT hZ (hw _ (List.mem_of_getElem? (i := 43) rfl))) (mvT hZ (hw _ (List.mem_of_getElem? (i := 44) rfl))) (notFace_of_selects (args := #[]) (mvT hZ (hw _ (List.mem_of_getElem? (i := 46) rfl)))) (mvT hZ (hw _ (List.mem_of_getElem? (i := 46) rfl))) (mvT hZ (hw _ (List.mem_of_getElem? (i := 45) rfl))) (by decide) (backOf (W := 1) (str_coder l Z a0 hw [] a gC h0 n0 Z0 O SC hgC Fc) hZ (hw _ (List.mem_of_getElem? (i := 47) rfl)) (hw _ (List.mem_of_getElem? (i := 3) rfl)) (by decide) (by decide)) q3a q3c (g := (mkF m 6 #[.val (.ref a)] [(.ref a), (.int (3 : Int32))])) rfl (by rw [hml]; rfl) (Steps.refl _) (argsL := []) (rest := [(.int (3 : Int32))]) (lenOf pd___B rfl) rfl (by show 2 * 0 + _ ≤ _; exact Nat.le_of_eq rfl) (hb hby d9_6) (fun _ _ => ⟨rfl, e1, (by decide : 0 + 0 ≤ _), (by decide : 0 + 0 ≤ _)⟩)
  dsimp only [Pt.U, Pt.locs, Pt.cells, Pt.slots] at X3 l3 y3 z3 st3 hQ3
  subst l3 y3 z3
  obtain ⟨rfl, N3q, e3⟩ := hQ3
  have N3 := Fr.app N0 N3q
  refine go_tr (B := (T3.setTop (mkF m 9 #[.val (.ref a)] [(.int (0 : Int32)), (.int (3 : Int32))]))) (st3) ?_
  refine go_of (B := (T3.setTop (mkF m 10 #[.val (.ref a)] [(.int (3 : Int32))]))) (fun _ kk => XS.ishr X3.here hx rfl (hb hby d9_9) rfl kk) ?_
  refine go_end X3 (v := some (.int (3 : Int32))) (fun h => by rw [Bd.returns] at h; cases h) Bd.notSynchronized (by decide) (by decide) (Q := (Q_str_len_3 Z a c0 c1 c2 gC h0 n0)) ?_ (fun fs hr => own_retI X3 hx Bd.returns (hb hby d9_10) hr)
  show (fun (v : Option Value) (h : Heap) (L : List Loc) => v = some (.int 3) ∧ Fr n0 L ∧ h = h0) (some (.int (3 : Int32))) T3.heap _
  rw [e3]
  exact ⟨rfl, N3, rfl⟩
theorem d12_0 : decode jdk_42_method_154_code 0 = .ok (.getstatic 38, 3) := by decide +kernel
theorem d12_3 : decode jdk_42_method_154_code 3 = .ok (.ifCond .eq 14, 3) := by decide +kernel
theorem d12_6 : decode jdk_42_method_154_code 6 = .ok (.aload_n 0, 1) := by decide +kernel
theorem d12_7 : decode jdk_42_method_154_code 7 = .ok (.getfield 15, 3) := by decide +kernel
theorem d12_10 : decode jdk_42_method_154_code 10 = .ok (.ifCond .ne 7, 3) := by decide +kernel
theorem d12_13 : decode jdk_42_method_154_code 13 = .ok (.iconst 1, 1) := by decide +kernel
theorem d12_14 : decode jdk_42_method_154_code 14 = .ok (.goto 4, 3) := by decide +kernel
theorem d12_18 : decode jdk_42_method_154_code 18 = .ok (.ireturn, 1) := by decide +kernel
def Q_str_latin (Z : State) (a : Addr) (gC : Int32) (h0 : Heap) (n0 : Nat) (v : Option Value) (h : Heap) (L : List Loc) : Prop := v = some (.int 1) ∧ Fr n0 L ∧ h = h0
theorem ef_str_latin (m : MethodId) (a : Addr)  : entryFrame m #[(.ref a)] 1 = mkF m 0 #[.val (.ref a)] [] := by first | (simp [entryFrame, mkF, argsToLocals, Value.category]; done) | rfl
set_option maxRecDepth 65536 in
set_option maxHeartbeats 40000000 in
theorem str_latin (l : Launch) (Z : State) (a0 : Array Value) (hw : ∀ d ∈ tables_1, d.before a0 Z = true) (ws : List Jvm.Cond) (a : Addr) (gC : Int32) (h0 : Heap) (n0 : Nat) (Z0 : n0 ≤ h0.size) (O : Old Z n0 h0) (SC : Sta Z Z.heap "java/lang/String" "COMPACT_STRINGS" "Z" (.int gC)) (hgC : ¬ gC = (0 : Int32)) (Fc : Fld Z h0 a "java/lang/String" "coder" "B" (.int 0)) :
    MetFree l (⟨"java/lang/String", "isLatin1", "()Z"⟩ : MethodName) (head1 (Jvm.Cond.code (⟨"java/lang/String", "isLatin1", "()Z"⟩ : MethodName) jdk_42_method_154_code 1 (some .boolean) :: ws) ({ frames := 0, cells := 0, slots := 0, locals := 0 } : Room)) (fun aa' U1' => aa' = #[(.ref a)] ∧ Z.Warmed39 U1'.vm ∧ U1'.heap = h0) (fun _ _ _ _ _ => True) (fun _ U1' oo' U2' => ∃ vv' LL', oo' = .returned vv' ∧ (Q_str_latin Z a gC h0 n0) vv' U2'.heap LL' ∧ FrameEnd U1' oo' U2' LL' ({ frames := 0, cells := 0, slots := 0, locals := 0 } : Room).cells ({ frames := 0, cells := 0, slots := 0, locals := 0 } : Room).slots) := by
  refine MetFree.of_bodySF (plainFor_of_name pn_java_lang_String) hisR ?_
  intro p e s m args below meth c s₁ Bd hml0 hP hK
  obtain ⟨rfl, hZ, hh⟩ := hP
  have hx := Bd.exec
  have hby := Bd.bytes
  have hml : c.maxLocals = 1 := hml0
  have hown : s.vm.findClass "java/lang/String" = some m.cls := findClass_of_methodNamed Bd.named
  have hnm := (name_of_methodNamed Bd.named Bd.method).1
  have X0 : Stand p l e ({ frames := 0, cells := 0, slots := 0, locals := 0 } : Room) s m #[(.ref a)] below meth c s₁ [] 0 0 := Stand.of_body Bd
  have e0 : s₁.heap = h0 := by rw [← hh, Bd.state]; rfl
  have N0 := Fr.nil n0
  refine go_of (A := s₁.setTop (entryFrame m #[(.ref a)] 1)) (B := s₁.setTop (mkF m 0 #[.val (.ref a)] [])) (fun _ kk' => castTop (ef_str_latin m a) kk') ?_
  obtain ⟨T1, X1, e1, st1⟩ := getS2 X0 hx hZ hown (host := "") (Or.inl (hw _ (List.mem_of_getElem? (i := 14) rfl))) Via.refl e0 (SC.ext O.2) (g := (mkF m 0 #[.val (.ref a)] [])) rfl (hb hby d12_0)
  refine go_of (B := (T1.setTop (mkF m 3 #[.val (.ref a)] [(.int gC)]))) (st1) ?_
  refine go_of (B := (T1.setTop (mkF m 6 #[.val (.ref a)] []))) (fun _ kk => XS.ifNo X1.here hx rfl (hb hby d12_3) rfl ((if0 _ _).trans (feq hgC).1) kk) ?_
  refine go_of (B := (T1.setTop (mkF m 7 #[.val (.ref a)] [(.ref a)]))) (fun _ kk => XS.aloadN X1.here hx rfl (hb hby d12_6) rfl rfl kk) ?_
  obtain ⟨T2, X2, e2, st2⟩ := getF X1 hx hZ hown (host := "") (Or.inl (hw _ (List.mem_of_getElem? (i := 26) rfl))) Via.refl e1 Fc (g := (mkF m 7 #[.val (.ref a)] [(.ref a)])) rfl rfl (hb hby d12_7)
  refine go_of (B := (T2.setTop (mkF m 10 #[.val (.ref a)] [(.int (0 : Int32))]))) (st2) ?_
  refine go_of (B := (T2.setTop (mkF m 13 #[.val (.ref a)] []))) (fun _ kk => XS.ifNo X2.here hx rfl (hb hby d12_10) rfl ((if0 _ _).trans (teq (by decide : (0 : Int32) = (0 : Int32))).2) kk) ?_
  refine go_of (B := (T2.setTop (mkF m 14 #[.val (.ref a)] [(.int (1 : Int32))]))) (fun _ kk => XS.iconst X2.here hx rfl (hb hby d12_13) kk) ?_
  refine go_of (B := (T2.setTop (mkF m 18 #[.val (.ref a)] [(.int (1 : Int32))]))) (fun _ kk => XS.goto X2.here hx rfl (pc0 := 14) (pc' := 18) rfl (hb hby d12_14) (by decide) (by decide) kk) ?_
  refine go_end X2 (v := some (.int (nar .boolean (1 : Int32)))) (fun h => by rw [Bd.returns] at h; cases h) Bd.notSynchronized (by decide) (by decide) (Q := (Q_str_latin Z a gC h0 n0)) ?_ (fun fs hr => retN X2 hx (t := .boolean) Bd.returns (by simp) (hb hby d12_18) hr)
  show (fun (v : Option Value) (h : Heap) (L : List Loc) => v = some (.int 1) ∧ Fr n0 L ∧ h = h0) (some (.int (nar .boolean (1 : Int32)))) T2.heap _
  rw [e2]
  exact ⟨rfl, N0, rfl⟩
theorem d15_0 : decode jdk_41_method_11_code 0 = .ok (.iload_n 0, 1) := by decide +kernel
theorem d15_1 : decode jdk_41_method_11_code 1 = .ok (.ifCond .lt 8, 3) := by decide +kernel
theorem d15_4 : decode jdk_41_method_11_code 4 = .ok (.iload_n 0, 1) := by decide +kernel
theorem d15_5 : decode jdk_41_method_11_code 5 = .ok (.iload_n 1, 1) := by decide +kernel
theorem d15_6 : decode jdk_41_method_11_code 6 = .ok (.if_icmp .lt 10, 3) := by decide +kernel
theorem d15_16 : decode jdk_41_method_11_code 16 = .ok (.iload_n 0, 1) := by decide +kernel
theorem d15_17 : decode jdk_41_method_11_code 17 = .ok (.ireturn, 1) := by decide +kernel
def Q_str_pre_3_0 (Z : State) (gF : Value) (h0 : Heap) (n0 : Nat) (v : Option Value) (h : Heap) (L : List Loc) : Prop := v = some (.int 0) ∧ Fr n0 L ∧ h = h0
theorem pn_jdk_internal_util_Preconditions : plainName "jdk/internal/util/Preconditions" = true := by first | (simp [plainName, overriddenIn]; done) | decide +kernel
theorem ef_str_pre_3_0 (m : MethodId) (gF : Value) (rgF : gF.isRef = true) : entryFrame m #[(.int (0 : Int32)), (.int (3 : Int32)), gF] 3 = mkF m 0 #[.val (.int (0 : Int32)), .val (.int (3 : Int32)), .val gF] [] := by rcases ref_cases rgF with rfl | ⟨_, rfl⟩ <;> first | (simp [entryFrame, mkF, argsToLocals, Value.category]; done) | rfl
set_option maxRecDepth 65536 in
set_option maxHeartbeats 40000000 in
theorem str_pre_3_0 (l : Launch) (Z : State) (a0 : Array Value) (hw : ∀ d ∈ tables_1, d.before a0 Z = true) (ws : List Jvm.Cond) (gF : Value) (h0 : Heap) (n0 : Nat) (Z0 : n0 ≤ h0.size) (rgF : gF.isRef = true) :
    MetFree l (⟨"jdk/internal/util/Preconditions", "checkIndex", "(IILjava/util/function/BiFunction;)I"⟩ : MethodName) (head1 (Jvm.Cond.code (⟨"jdk/internal/util/Preconditions", "checkIndex", "(IILjava/util/function/BiFunction;)I"⟩ : MethodName) jdk_41_method_11_code 3 (some .int) :: ws) ({ frames := 0, cells := 0, slots := 0, locals := 0 } : Room)) (fun aa' U1' => aa' = #[(.int (0 : Int32)), (.int (3 : Int32)), gF] ∧ Z.Warmed39 U1'.vm ∧ U1'.heap = h0) (fun _ _ _ _ _ => True) (fun _ U1' oo' U2' => ∃ vv' LL', oo' = .returned vv' ∧ (Q_str_pre_3_0 Z gF h0 n0) vv' U2'.heap LL' ∧ FrameEnd U1' oo' U2' LL' ({ frames := 0, cells := 0, slots := 0, locals := 0 } : Room).cells ({ frames := 0, cells := 0, slots := 0, locals := 0 } : Room).slots) := by
  refine MetFree.of_bodySF (plainFor_of_name pn_jdk_internal_util_Preconditions) hisR ?_
  intro p e s m args below meth c s₁ Bd hml0 hP hK
  obtain ⟨rfl, hZ, hh⟩ := hP
  have hx := Bd.exec
  have hby := Bd.bytes
  have hml : c.maxLocals = 3 := hml0
  have hown : s.vm.findClass "jdk/internal/util/Preconditions" = some m.cls := findClass_of_methodNamed Bd.named
  have hnm := (name_of_methodNamed Bd.named Bd.method).1
  have X0 : Stand p l e ({ frames := 0, cells := 0, slots := 0, locals := 0 } : Room) s m #[(.int (0 : Int32)), (.int (3 : Int32)), gF] below meth c s₁ [] 0 0 := Stand.of_body Bd
  have e0 : s₁.heap = h0 := by rw [← hh, Bd.state]; rfl
  have N0 := Fr.nil n0
  refine go_of (A := s₁.setTop (entryFrame m #[(.int (0 : Int32)), (.int (3 : Int32)), gF] 3)) (B := s₁.setTop (mkF m 0 #[.val (.int (0 : Int32)), .val (.int (3 : Int32)), .val gF] [])) (fun _ kk' => castTop (ef_str_pre_3_0 m gF rgF) kk') ?_
  refine go_of (B := (s₁.setTop (mkF m 1 #[.val (.int (0 : Int32)), .val (.int (3 : Int32)), .val gF] [(.int (0 : Int32))]))) (fun _ kk => XS.iloadN X0.here hx rfl (hb hby d15_0) rfl kk) ?_
  refine go_of (B := (s₁.setTop (mkF m 4 #[.val (.int (0 : Int32)), .val (.int (3 : Int32)), .val gF] []))) (fun _ kk => XS.ifNo X0.here hx rfl (hb hby d15_1) rfl ((if0 _ _).trans (flt (by decide : ¬ ((0 : Int32) < (0 : Int32)))).1) kk) ?_
  refine go_of (B := (s₁.setTop (mkF m 5 #[.val (.int (0 : Int32)), .val (.int (3 : Int32)), .val gF] [(.int (0 : Int32))]))) (fun _ kk => XS.iloadN X0.here hx rfl (hb hby d15_4) rfl kk) ?_
  refine go_of (B := (s₁.setTop (mkF m 6 #[.val (.int (0 : Int32)), .val (.int (3 : Int32)), .val gF] [(.int (3 : Int32)), (.int (0 : Int32))]))) (fun _ kk => XS.iloadN X0.here hx rfl (hb hby d15_5) rfl kk) ?_
  refine go_of (B := (s₁.setTop (mkF m 16 #[.val (.int (0 : Int32)), .val (.int (3 : Int32)), .val gF] []))) (fun _ kk => XS.icmpYes X0.here hx rfl (pc0 := 6) (pc' := 16) rfl (hb hby d15_6) rfl (tlt (by decide : (0 : Int32) < (3 : Int32))).1 (by decide) (by decide) kk) ?_
  refine go_of (B := (s₁.setTop (mkF m 17 #[.val (.int (0 : Int32)), .val (.int (3 : Int32)), .val gF] [(.int (0 : Int32))]))) (fun _ kk => XS.iloadN X0.here hx rfl (hb hby d15_16) rfl kk) ?_
  refine go_end X0 (v := some (.int (0 : Int32))) (fun h => by rw [Bd.returns] at h; cases h) Bd.notSynchronized (by decide) (by decide) (Q := (Q_str_pre_3_0 Z gF h0 n0)) ?_ (fun fs hr => own_retI X0 hx Bd.returns (hb hby d15_17) hr)
  show (fun (v : Option Value) (h : Heap) (L : List Loc) => v = some (.int 0) ∧ Fr n0 L ∧ h = h0) (some (.int (0 : Int32))) s₁.heap _
  rw [e0]
  exact ⟨rfl, N0, rfl⟩
theorem d14_0 : decode jdk_42_method_155_code 0 = .ok (.iload_n 0, 1) := by decide +kernel
theorem d14_1 : decode jdk_42_method_155_code 1 = .ok (.iload_n 1, 1) := by decide +kernel
theorem d14_2 : decode jdk_42_method_155_code 2 = .ok (.getstatic 1053, 3) := by decide +kernel
theorem d14_5 : decode jdk_42_method_155_code 5 = .ok (.invokestatic 1059, 3) := by decide +kernel
theorem pd__IILjava_util_function_BiFunction__I : parseMethodDescriptor "(IILjava/util/function/BiFunction;)I" = some ⟨[.int, .int, (.object "java/util/function/BiFunction")], some .int⟩ := by decide +kernel
theorem d14_8 : decode jdk_42_method_155_code 8 = .ok (.pop, 1) := by decide +kernel
theorem d14_9 : decode jdk_42_method_155_code 9 = .ok (.return_, 1) := by decide +kernel
def Q_str_chk_3_0 (Z : State) (gF : Value) (h0 : Heap) (n0 : Nat) (v : Option Value) (h : Heap) (L : List Loc) : Prop := v = none ∧ Fr n0 L ∧ h = h0
theorem ef_str_chk_3_0 (m : MethodId)   : entryFrame m #[(.int (0 : Int32)), (.int (3 : Int32))] 2 = mkF m 0 #[.val (.int (0 : Int32)), .val (.int (3 : Int32))] [] := by first | (simp [entryFrame, mkF, argsToLocals, Value.category]; done) | rfl
set_option maxRecDepth 65536 in
set_option maxHeartbeats 40000000 in
theorem str_chk_3_0 (l : Launch) (Z : State) (a0 : Array Value) (hw : ∀ d ∈ tables_1, d.before a0 Z = true) (ws : List Jvm.Cond) (gF : Value) (h0 : Heap) (n0 : Nat) (Z0 : n0 ≤ h0.size) (O : Old Z n0 h0) (SF : Sta Z Z.heap "jdk/internal/util/Preconditions" "SIOOBE_FORMATTER" "Ljava/util/function/BiFunction;" gF) (rgF : gF.isRef = true) :
    MetFree l (⟨"java/lang/String", "checkIndex", "(II)V"⟩ : MethodName) (head1 (Jvm.Cond.code (⟨"java/lang/String", "checkIndex", "(II)V"⟩ : MethodName) jdk_42_method_155_code 2 none :: ws) ({ frames := 1, cells := 0, slots := 0, locals := 14 } : Room)) (fun aa' U1' => aa' = #[(.int (0 : Int32)), (.int (3 : Int32))] ∧ Z.Warmed39 U1'.vm ∧ U1'.heap = h0) (fun _ _ _ _ _ => True) (fun _ U1' oo' U2' => ∃ vv' LL', oo' = .returned vv' ∧ (Q_str_chk_3_0 Z gF h0 n0) vv' U2'.heap LL' ∧ FrameEnd U1' oo' U2' LL' ({ frames := 1, cells := 0, slots := 0, locals := 14 } : Room).cells ({ frames := 1, cells := 0, slots := 0, locals := 14 } : Room).slots) := by
  refine MetFree.of_bodySF (plainFor_of_name pn_java_lang_String) hisR ?_
  intro p e s m args below meth c s₁ Bd hml0 hP hK
  obtain ⟨rfl, hZ, hh⟩ := hP
  have hx := Bd.exec
  have hby := Bd.bytes
  have hml : c.maxLocals = 2 := hml0
  have hown : s.vm.findClass "java/lang/String" = some m.cls := findClass_of_methodNamed Bd.named
  have hnm := (name_of_methodNamed Bd.named Bd.method).1
  have X0 : Stand p l e ({ frames := 1, cells := 0, slots := 0, locals := 14 } : Room) s m #[(.int (0 : Int32)), (.int (3 : Int32))] below meth c s₁ [] 0 0 := Stand.of_body Bd
  have e0 : s₁.heap = h0 := by rw [← hh, Bd.state]; rfl
  have N0 := Fr.nil n0
  refine go_of (A := s₁.setTop (entryFrame m #[(.int (0 : Int32)), (.int (3 : Int32))] 2)) (B := s₁.setTop (mkF m 0 #[.val (.int (0 : Int32)), .val (.int (3 : Int32))] [])) (fun _ kk' => castTop (ef_str_chk_3_0 m ) kk') ?_
  refine go_of (B := (s₁.setTop (mkF m 1 #[.val (.int (0 : Int32)), .val (.int (3 : Int32))] [(.int (0 : Int32))]))) (fun _ kk => XS.iloadN X0.here hx rfl (hb hby d14_0) rfl kk) ?_
  refine go_of (B := (s₁.setTop (mkF m 2 #[.val (.int (0 : Int32)), .val (.int (3 : Int32))] [(.int (3 : Int32)), (.int (0 : Int32))]))) (fun _ kk => XS.iloadN X0.here hx rfl (hb hby d14_1) rfl kk) ?_
  obtain ⟨T1, X1, e1, st1⟩ := getS2 X0 hx hZ hown (host := "") (Or.inl (hw _ (List.mem_of_getElem? (i := 65) rfl))) Via.refl e0 (SF.ext O.2) (g := (mkF m 2 #[.val (.int (0 : Int32)), .val (.int (3 : Int32))] [(.int (3 : Int32)), (.int (0 : Int32))])) rfl (hb hby d14_2)
  refine go_of (B := (T1.setTop (mkF m 5 #[.val (.int (0 : Int32)), .val (.int (3 : Int32))] [gF, (.int (3 : Int32)), (.int (0 : Int32))]))) (st1) ?_
  obtain ⟨_, _, ⟨T2, L2, k2, n2⟩, -, X2, ⟨Lc2, hQ2, l2, y2, z2⟩, st2⟩ := Jvm.LawKit.callS X1 hx (y := (⟨"jdk/internal/util/Preconditions", "checkIndex", "(IILjava/util/function/BiFunction;)I"⟩ : MethodName)) hown (mvT hZ (hw _ (List.mem_of_getElem? (i := 67) rfl))) (mvT hZ (hw _ (List.mem_of_getElem? (i := 68) rfl))) (mvT hZ (hw _ (List.mem_of_getElem? (i := 66) rfl))) (mvT hZ (hw _ (List.mem_of_getElem? (i := 69) rfl))) (by decide) (backOf (W := 0) (str_pre_3_0 l Z a0 hw [] gF h0 n0 Z0 rgF) hZ (hw _ (List.mem_of_getElem? (i := 69) rfl)) (hw _ (List.mem_of_getElem? (i := 66) rfl)) (by decide) (by decide)) (g := (mkF m 5 #[.val (.int (0 : Int32)), .val (.int (3 : Int32))] [gF, (.int (3 : Int32)), (.int (0 : Int32))])) rfl (by rw [hml]; rfl) (argsL := [(.int (0 : Int32)), (.int (3 : Int32)), gF]) (rest := []) (lenOf pd__IILjava_util_function_BiFunction__I rfl) rfl (by show 2 * 0 + _ ≤ _; exact Nat.le_of_eq rfl) (hb hby d14_5) (fun _ _ => ⟨rfl, e1, (by decide : 0 + 0 ≤ _), (by decide : 0 + 0 ≤ _)⟩)
  dsimp only [Pt.U, Pt.locs, Pt.cells, Pt.slots] at X2 l2 y2 z2 st2 hQ2
  subst l2 y2 z2
  obtain ⟨rfl, N2q, e2⟩ := hQ2
  have N2 := Fr.app N0 N2q
  refine go_of (B := (T2.setTop (mkF m 8 #[.val (.int (0 : Int32)), .val (.int (3 : Int32))] [(.int (0 : Int32))]))) (st2) ?_
  refine go_of (B := (T2.setTop (mkF m 9 #[.val (.int (0 : Int32)), .val (.int (3 : Int32))] []))) (fun _ kk => XS.pop X2.here hx rfl (hb hby d14_8) rfl rfl kk) ?_
  refine go_end X2 (v := none) (fun _ => rfl) Bd.notSynchronized (by decide) (by decide) (Q := (Q_str_chk_3_0 Z gF h0 n0)) ?_ (fun fs hr => X2.returnOut hx Bd.returns (hb hby d14_9) hr)
  show (fun (v : Option Value) (h : Heap) (L : List Loc) => v = none ∧ Fr n0 L ∧ h = h0) (none) T2.heap _
  rw [e2]
  exact ⟨rfl, N2, rfl⟩
theorem d13_0 : decode jdk_43_method_2_code 0 = .ok (.iload_n 1, 1) := by decide +kernel
theorem d13_1 : decode jdk_43_method_2_code 1 = .ok (.aload_n 0, 1) := by decide +kernel
theorem d13_2 : decode jdk_43_method_2_code 2 = .ok (.arraylength, 1) := by decide +kernel
theorem d13_3 : decode jdk_43_method_2_code 3 = .ok (.invokestatic 9, 3) := by decide +kernel
theorem pd__II_V : parseMethodDescriptor "(II)V" = some ⟨[.int, .int], none⟩ := by decide +kernel
theorem d13_6 : decode jdk_43_method_2_code 6 = .ok (.aload_n 0, 1) := by decide +kernel
theorem d13_7 : decode jdk_43_method_2_code 7 = .ok (.iload_n 1, 1) := by decide +kernel
theorem d13_8 : decode jdk_43_method_2_code 8 = .ok (.baload, 1) := by decide +kernel
theorem d13_9 : decode jdk_43_method_2_code 9 = .ok (.sipush 255, 3) := by decide +kernel
theorem d13_12 : decode jdk_43_method_2_code 12 = .ok (.iand, 1) := by decide +kernel
theorem d13_13 : decode jdk_43_method_2_code 13 = .ok (.i2c, 1) := by decide +kernel
theorem d13_14 : decode jdk_43_method_2_code 14 = .ok (.ireturn, 1) := by decide +kernel
def Q_str_lch_3_0 (Z : State) (t : Addr) (c0 : Int32) (c1 : Int32) (c2 : Int32) (k : ClassId) (gF : Value) (h0 : Heap) (n0 : Nat) (v : Option Value) (h : Heap) (L : List Loc) : Prop := v = some (.int c0) ∧ Fr n0 L ∧ h = h0
theorem pn_java_lang_StringLatin1 : plainName "java/lang/StringLatin1" = true := by first | (simp [plainName, overriddenIn]; done) | decide +kernel
theorem ef_str_lch_3_0 (m : MethodId) (t : Addr)  : entryFrame m #[(.ref t), (.int (0 : Int32))] 2 = mkF m 0 #[.val (.ref t), .val (.int (0 : Int32))] [] := by first | (simp [entryFrame, mkF, argsToLocals, Value.category]; done) | rfl
set_option maxRecDepth 65536 in
set_option maxHeartbeats 40000000 in
theorem str_lch_3_0 (l : Launch) (Z : State) (a0 : Array Value) (hw : ∀ d ∈ tables_1, d.before a0 Z = true) (ws : List Jvm.Cond) (t : Addr) (c0 : Int32) (c1 : Int32) (c2 : Int32) (k : ClassId) (gF : Value) (h0 : Heap) (n0 : Nat) (Z0 : n0 ≤ h0.size) (O : Old Z n0 h0) (SF : Sta Z Z.heap "jdk/internal/util/Preconditions" "SIOOBE_FORMATTER" "Ljava/util/function/BiFunction;" gF) (rgF : gF.isRef = true) (Va : Arv Z h0 t k .byte 3 [(.int (own_b8 c0)), (.int (own_b8 c1)), (.int (own_b8 c2))] (.int 0)) (hci : ¬ c0 < 0 ∧ ¬ (255 : Int32) < c0) :
    MetFree l (⟨"java/lang/StringLatin1", "charAt", "([BI)C"⟩ : MethodName) (head1 (Jvm.Cond.code (⟨"java/lang/StringLatin1", "charAt", "([BI)C"⟩ : MethodName) jdk_43_method_2_code 2 (some .char) :: ws) ({ frames := 2, cells := 0, slots := 0, locals := 27 } : Room)) (fun aa' U1' => aa' = #[(.ref t), (.int (0 : Int32))] ∧ Z.Warmed39 U1'.vm ∧ U1'.heap = h0) (fun _ _ _ _ _ => True) (fun _ U1' oo' U2' => ∃ vv' LL', oo' = .returned vv' ∧ (Q_str_lch_3_0 Z t c0 c1 c2 k gF h0 n0) vv' U2'.heap LL' ∧ FrameEnd U1' oo' U2' LL' ({ frames := 2, cells := 0, slots := 0, locals := 27 } : Room).cells ({ frames := 2, cells := 0, slots := 0, locals := 27 } : Room).slots) := by
  refine MetFree.of_bodySF (plainFor_of_name pn_java_lang_StringLatin1) hisR ?_
  intro p e s m args below meth c s₁ Bd hml0 hP hK
  obtain ⟨rfl, hZ, hh⟩ := hP
  have hx := Bd.exec
  have hby := Bd.bytes
  have hml : c.maxLocals = 2 := hml0
  have hown : s.vm.findClass "java/lang/StringLatin1" = some m.cls := findClass_of_methodNamed Bd.named
  have hnm := (name_of_methodNamed Bd.named Bd.method).1
  have X0 : Stand p l e ({ frames := 2, cells := 0, slots := 0, locals := 27 } : Room) s m #[(.ref t), (.int (0 : Int32))] below meth c s₁ [] 0 0 := Stand.of_body Bd
  have e0 : s₁.heap = h0 := by rw [← hh, Bd.state]; rfl
  have N0 := Fr.nil n0
  refine go_of (A := s₁.setTop (entryFrame m #[(.ref t), (.int (0 : Int32))] 2)) (B := s₁.setTop (mkF m 0 #[.val (.ref t), .val (.int (0 : Int32))] [])) (fun _ kk' => castTop (ef_str_lch_3_0 m t) kk') ?_
  refine go_of (B := (s₁.setTop (mkF m 1 #[.val (.ref t), .val (.int (0 : Int32))] [(.int (0 : Int32))]))) (fun _ kk => XS.iloadN X0.here hx rfl (hb hby d13_0) rfl kk) ?_
  refine go_of (B := (s₁.setTop (mkF m 2 #[.val (.ref t), .val (.int (0 : Int32))] [(.ref t), (.int (0 : Int32))]))) (fun _ kk => XS.aloadN X0.here hx rfl (hb hby d13_1) rfl rfl kk) ?_
  obtain ⟨cl1, Ar1, q1, Sz1, Nn1, Hh1, G1⟩ := id (Va)
  have ln1 := len_of Sz1 Nn1
  refine go_of (B := (s₁.setTop (mkF m 3 #[.val (.ref t), .val (.int (0 : Int32))] [(.int (3 : Int32)), (.int (0 : Int32))]))) (fun _ kk => X0.arraylength hx (by rw [e0]; exact Ar1.1) (State.isArrayOf_alike hZ.alike Ar1.2.1) (g := (mkF m 2 #[.val (.ref t), .val (.int (0 : Int32))] [(.ref t), (.int (0 : Int32))])) rfl rfl (hb hby d13_2) _ (by rw [ln1]; exact kk)) ?_
  obtain ⟨_, _, ⟨T2, L2, k2, n2⟩, -, X2, ⟨Lc2, hQ2, l2, y2, z2⟩, st2⟩ := Jvm.LawKit.callS X0 hx (y := (⟨"java/lang/String", "checkIndex", "(II)V"⟩ : MethodName)) hown (mvT hZ (hw _ (List.mem_of_getElem? (i := 62) rfl))) (mvT hZ (hw _ (List.mem_of_getElem? (i := 63) rfl))) (mvT hZ (hw _ (List.mem_of_getElem? (i := 3) rfl))) (mvT hZ (hw _ (List.mem_of_getElem? (i := 64) rfl))) (by decide) (backOf (W := 0) (str_chk_3_0 l Z a0 hw [] gF h0 n0 Z0 O SF rgF) hZ (hw _ (List.mem_of_getElem? (i := 64) rfl)) (hw _ (List.mem_of_getElem? (i := 3) rfl)) (by decide) (by decide)) (g := (mkF m 3 #[.val (.ref t), .val (.int (0 : Int32))] [(.int (3 : Int32)), (.int (0 : Int32))])) rfl (by rw [hml]; rfl) (argsL := [(.int (0 : Int32)), (.int (3 : Int32))]) (rest := []) (lenOf pd__II_V rfl) rfl (by show 2 * 0 + _ ≤ _; exact Nat.le_of_eq rfl) (hb hby d13_3) (fun _ _ => ⟨rfl, e0, (by decide : 0 + 0 ≤ _), (by decide : 0 + 0 ≤ _)⟩)
  dsimp only [Pt.U, Pt.locs, Pt.cells, Pt.slots] at X2 l2 y2 z2 st2 hQ2
  subst l2 y2 z2
  obtain ⟨rfl, N2q, e2⟩ := hQ2
  have N2 := Fr.app N0 N2q
  refine go_of (B := (T2.setTop (mkF m 6 #[.val (.ref t), .val (.int (0 : Int32))] []))) (st2) ?_
  refine go_of (B := (T2.setTop (mkF m 7 #[.val (.ref t), .val (.int (0 : Int32))] [(.ref t)]))) (fun _ kk => XS.aloadN X2.here hx rfl (hb hby d13_6) rfl rfl kk) ?_
  refine go_of (B := (T2.setTop (mkF m 8 #[.val (.ref t), .val (.int (0 : Int32))] [(.int (0 : Int32)), (.ref t)]))) (fun _ kk => XS.iloadN X2.here hx rfl (hb hby d13_7) rfl kk) ?_
  obtain ⟨cl3, Ar3, q3, Sz3, Nn3, Hh3, G3⟩ := id (Va)
  refine go_of (B := (T2.setTop (mkF m 9 #[.val (.ref t), .val (.int (0 : Int32))] [(.int (own_b8 c0))]))) (fun _ kk => X2.baloadBytes hx (j := (0 : Int32)) (v := (.int (own_b8 c0))) (by rw [e2]; exact Ar3.1) (State.isArrayOf_alike hZ.alike Ar3.2.1) Ar3.2.2 (inb_of Sz3 ⟨by decide, by decide⟩) (Hh3.at (inb_of Sz3 ⟨by decide, by decide⟩) rfl) (g := (mkF m 8 #[.val (.ref t), .val (.int (0 : Int32))] [(.int (0 : Int32)), (.ref t)])) rfl rfl (hb hby d13_8) _ kk) ?_
  refine go_of (B := (T2.setTop (mkF m 12 #[.val (.ref t), .val (.int (0 : Int32))] [(.int (255 : Int32)), (.int (own_b8 c0))]))) (fun _ kk => XS.sipush X2.here hx rfl (hb hby d13_9) kk) ?_
  refine go_of (B := (T2.setTop (mkF m 13 #[.val (.ref t), .val (.int (0 : Int32))] [(.int ((own_b8 c0) &&& (255 : Int32)))]))) (fun _ kk => XS.iand X2.here hx rfl (hb hby d13_12) rfl kk) ?_
  refine go_of (B := (T2.setTop (mkF m 14 #[.val (.ref t), .val (.int (0 : Int32))] [(.int (((own_b8 c0) &&& (255 : Int32)).toUInt32.toUInt16.toUInt32.toInt32))]))) (fun _ kk => XS.i2c X2.here hx rfl (hb hby d13_13) rfl kk) ?_
  refine go_end X2 (v := some (.int (nar .char (((own_b8 c0) &&& (255 : Int32)).toUInt32.toUInt16.toUInt32.toInt32)))) (fun h => by rw [Bd.returns] at h; cases h) Bd.notSynchronized (by decide) (by decide) (Q := (Q_str_lch_3_0 Z t c0 c1 c2 k gF h0 n0)) ?_ (fun fs hr => retN X2 hx (t := .char) Bd.returns (by simp) (hb hby d13_14) hr)
  show (fun (v : Option Value) (h : Heap) (L : List Loc) => v = some (.int c0) ∧ Fr n0 L ∧ h = h0) (some (.int (nar .char (((own_b8 c0) &&& (255 : Int32)).toUInt32.toUInt16.toUInt32.toInt32)))) T2.heap _
  rw [e2]
  refine ⟨?_, N2, rfl⟩
  rw [own_b255 hci, own_narc hci]
theorem d11_0 : decode jdk_42_method_56_code 0 = .ok (.aload_n 0, 1) := by decide +kernel
theorem d11_1 : decode jdk_42_method_56_code 1 = .ok (.invokevirtual 492, 3) := by decide +kernel
theorem pd___Z : parseMethodDescriptor "()Z" = some ⟨[], some .boolean⟩ := by decide +kernel
theorem d11_4 : decode jdk_42_method_56_code 4 = .ok (.ifCond .eq 12, 3) := by decide +kernel
theorem d11_7 : decode jdk_42_method_56_code 7 = .ok (.aload_n 0, 1) := by decide +kernel
theorem d11_8 : decode jdk_42_method_56_code 8 = .ok (.getfield 9, 3) := by decide +kernel
theorem d11_11 : decode jdk_42_method_56_code 11 = .ok (.iload_n 1, 1) := by decide +kernel
theorem d11_12 : decode jdk_42_method_56_code 12 = .ok (.invokestatic 495, 3) := by decide +kernel
theorem pd___BI_C : parseMethodDescriptor "([BI)C" = some ⟨[(.array .byte), .int], some .char⟩ := by decide +kernel
theorem d11_15 : decode jdk_42_method_56_code 15 = .ok (.ireturn, 1) := by decide +kernel
def Q_str_ch_3_0 (Z : State) (a : Addr) (c0 : Int32) (c1 : Int32) (c2 : Int32) (gC : Int32) (gF : Value) (h0 : Heap) (n0 : Nat) (v : Option Value) (h : Heap) (L : List Loc) : Prop := v = some (.int c0) ∧ Fr n0 L ∧ h = h0
theorem ef_str_ch_3_0 (m : MethodId) (a : Addr)  : entryFrame m #[(.ref a), (.int (0 : Int32))] 2 = mkF m 0 #[.val (.ref a), .val (.int (0 : Int32))] [] := by first | (simp [entryFrame, mkF, argsToLocals, Value.category]; done) | rfl
set_option maxRecDepth 65536 in
set_option maxHeartbeats 40000000 in
theorem str_ch_3_0 (l : Launch) (Z : State) (a0 : Array Value) (hw : ∀ d ∈ tables_1, d.before a0 Z = true) (ws : List Jvm.Cond) (a : Addr) (c0 : Int32) (c1 : Int32) (c2 : Int32) (gC : Int32) (gF : Value) (h0 : Heap) (n0 : Nat) (Z0 : n0 ≤ h0.size) (O : Old Z n0 h0) (SC : Sta Z Z.heap "java/lang/String" "COMPACT_STRINGS" "Z" (.int gC)) (hgC : ¬ gC = (0 : Int32)) (S : Str Z h0 a 3 [c0, c1, c2]) (SF : Sta Z Z.heap "jdk/internal/util/Preconditions" "SIOOBE_FORMATTER" "Ljava/util/function/BiFunction;" gF) (rgF : gF.isRef = true) :
    MetFree l (⟨"java/lang/String", "charAt", "(I)C"⟩ : MethodName) (head1 (Jvm.Cond.code (⟨"java/lang/String", "charAt", "(I)C"⟩ : MethodName) jdk_42_method_56_code 2 (some .char) :: ws) ({ frames := 3, cells := 0, slots := 0, locals := 40 } : Room)) (fun aa' U1' => aa' = #[(.ref a), (.int (0 : Int32))] ∧ Z.Warmed39 U1'.vm ∧ U1'.heap = h0) (fun _ _ _ _ _ => True) (fun _ U1' oo' U2' => ∃ vv' LL', oo' = .returned vv' ∧ (Q_str_ch_3_0 Z a c0 c1 c2 gC gF h0 n0) vv' U2'.heap LL' ∧ FrameEnd U1' oo' U2' LL' ({ frames := 3, cells := 0, slots := 0, locals := 40 } : Room).cells ({ frames := 3, cells := 0, slots := 0, locals := 40 } : Room).slots) := by
  refine MetFree.of_bodySF (plainFor_of_name pn_java_lang_String) hisR ?_
  intro p e s m args below meth c s₁ Bd hml0 hP hK
  obtain ⟨rfl, hZ, hh⟩ := hP
  have hx := Bd.exec
  have hby := Bd.bytes
  have hml : c.maxLocals = 2 := hml0
  have hown : s.vm.findClass "java/lang/String" = some m.cls := findClass_of_methodNamed Bd.named
  have hnm := (name_of_methodNamed Bd.named Bd.method).1
  have X0 : Stand p l e ({ frames := 3, cells := 0, slots := 0, locals := 40 } : Room) s m #[(.ref a), (.int (0 : Int32))] below meth c s₁ [] 0 0 := Stand.of_body Bd
  have e0 : s₁.heap = h0 := by rw [← hh, Bd.state]; rfl
  have N0 := Fr.nil n0
  obtain ⟨t, k, Ea, Fc, Fv, Va, hcs⟩ := S
  have lta := own_nlt (Ea.lt)
  have ltt := own_nlt (Va.lt)
  have hci : ¬ c0 < 0 ∧ ¬ (255 : Int32) < c0 := hcs c0 (List.mem_of_getElem? (i := 0) rfl)
  refine go_of (A := s₁.setTop (entryFrame m #[(.ref a), (.int (0 : Int32))] 2)) (B := s₁.setTop (mkF m 0 #[.val (.ref a), .val (.int (0 : Int32))] [])) (fun _ kk' => castTop (ef_str_ch_3_0 m a) kk') ?_
  refine go_of (B := (s₁.setTop (mkF m 1 #[.val (.ref a), .val (.int (0 : Int32))] [(.ref a)]))) (fun _ kk => XS.aloadN X0.here hx rfl (hb hby d11_0) rfl rfl kk) ?_
  obtain ⟨cq1, kq1, q1a, q1b, q1c⟩ := isOf hZ e0 Ea
  obtain ⟨_, _, ⟨T1, L1, k1, n1⟩, -, X1, ⟨Lc1, hQ1, l1, y1, z1⟩, st1⟩ := X0.virtualBack hx (y := (⟨"java/lang/String", "isLatin1", "()Z"⟩ : MethodName)) (z := (⟨"java/lang/String", "isLatin1", "()Z"⟩ : MethodName)) hown (mvT hZ (hw _ (List.mem_of_getElem? (i := 53) rfl))) (mvT hZ (hw _ (List.mem_of_getElem? (i := 54) rfl))) (notFace_of_selects (args := #[]) (mvT hZ (hw _ (List.mem_of_getElem? (i := 56) rfl)))) (mvT hZ (hw _ (List.mem_of_getElem? (i := 56) rfl))) (mvT hZ (hw _ (List.mem_of_getElem? (i := 55) rfl))) (by decide) (backOf (W := 0) (str_latin l Z a0 hw [] a gC h0 n0 Z0 O SC hgC Fc) hZ (hw _ (List.mem_of_getElem? (i := 57) rfl)) (hw _ (List.mem_of_getElem? (i := 3) rfl)) (by decide) (by decide)) q1a q1c (g := (mkF m 1 #[.val (.ref a), .val (.int (0 : Int32))] [(.ref a)])) rfl (by rw [hml]; rfl) (Steps.refl _) (argsL := []) (rest := []) (lenOf pd___Z rfl) rfl (by show 2 * 0 + _ ≤ _; exact Nat.le_of_eq rfl) (hb hby d11_1) (fun _ _ => ⟨rfl, e0, (by decide : 0 + 0 ≤ _), (by decide : 0 + 0 ≤ _)⟩)
  dsimp only [Pt.U, Pt.locs, Pt.cells, Pt.slots] at X1 l1 y1 z1 st1 hQ1
  subst l1 y1 z1
  obtain ⟨rfl, N1q, e1⟩ := hQ1
  have N1 := Fr.app N0 N1q
  refine go_tr (B := (T1.setTop (mkF m 4 #[.val (.ref a), .val (.int (0 : Int32))] [(.int (1 : Int32))]))) (st1) ?_
  refine go_of (B := (T1.setTop (mkF m 7 #[.val (.ref a), .val (.int (0 : Int32))] []))) (fun _ kk => XS.ifNo X1.here hx rfl (hb hby d11_4) rfl ((if0 _ _).trans (feq (by decide : ¬ ((1 : Int32) = (0 : Int32)))).1) kk) ?_
  refine go_of (B := (T1.setTop (mkF m 8 #[.val (.ref a), .val (.int (0 : Int32))] [(.ref a)]))) (fun _ kk => XS.aloadN X1.here hx rfl (hb hby d11_7) rfl rfl kk) ?_
  obtain ⟨T2, X2, e2, st2⟩ := getF X1 hx hZ hown (host := "") (Or.inl (hw _ (List.mem_of_getElem? (i := 28) rfl))) Via.refl e1 Fv (g := (mkF m 8 #[.val (.ref a), .val (.int (0 : Int32))] [(.ref a)])) rfl rfl (hb hby d11_8)
  refine go_of (B := (T2.setTop (mkF m 11 #[.val (.ref a), .val (.int (0 : Int32))] [(.ref t)]))) (st2) ?_
  refine go_of (B := (T2.setTop (mkF m 12 #[.val (.ref a), .val (.int (0 : Int32))] [(.int (0 : Int32)), (.ref t)]))) (fun _ kk => XS.iloadN X2.here hx rfl (hb hby d11_11) rfl kk) ?_
  obtain ⟨_, _, ⟨T3, L3, k3, n3⟩, -, X3, ⟨Lc3, hQ3, l3, y3, z3⟩, st3⟩ := Jvm.LawKit.callS X2 hx (y := (⟨"java/lang/StringLatin1", "charAt", "([BI)C"⟩ : MethodName)) hown (mvT hZ (hw _ (List.mem_of_getElem? (i := 58) rfl))) (mvT hZ (hw _ (List.mem_of_getElem? (i := 59) rfl))) (mvT hZ (hw _ (List.mem_of_getElem? (i := 60) rfl))) (mvT hZ (hw _ (List.mem_of_getElem? (i := 61) rfl))) (by decide) (backOf (W := 0) (str_lch_3_0 l Z a0 hw [] t c0 c1 c2 k gF h0 n0 Z0 O SF rgF Va hci) hZ (hw _ (List.mem_of_getElem? (i := 61) rfl)) (hw _ (List.mem_of_getElem? (i := 60) rfl)) (by decide) (by decide)) (g := (mkF m 12 #[.val (.ref a), .val (.int (0 : Int32))] [(.int (0 : Int32)), (.ref t)])) rfl (by rw [hml]; rfl) (argsL := [(.ref t), (.int (0 : Int32))]) (rest := []) (lenOf pd___BI_C rfl) rfl (by show 2 * 0 + _ ≤ _; exact Nat.le_of_eq rfl) (hb hby d11_12) (fun _ _ => ⟨rfl, e2, (by decide : 0 + 0 ≤ _), (by decide : 0 + 0 ≤ _)⟩)
  dsimp only [Pt.U, Pt.locs, Pt.cells, Pt.slots] at X3 l3 y3 z3 st3 hQ3
  subst l3 y3 z3
  obtain ⟨rfl, N3q, e3⟩ := hQ3
  have N3 := Fr.app N1 N3q
  refine go_of (B := (T3.setTop (mkF m 15 #[.val (.ref a), .val (.int (0 : Int32))] [(.int c0)]))) (st3) ?_
  refine go_end X3 (v := some (.int (nar .char c0))) (fun h => by rw [Bd.returns] at h; cases h) Bd.notSynchronized (by decide) (by decide) (Q := (Q_str_ch_3_0 Z a c0 c1 c2 gC gF h0 n0)) ?_ (fun fs hr => retN X3 hx (t := .char) Bd.returns (by simp) (hb hby d11_15) hr)
  show (fun (v : Option Value) (h : Heap) (L : List Loc) => v = some (.int c0) ∧ Fr n0 L ∧ h = h0) (some (.int (nar .char c0))) T3.heap _
  rw [e3]
  refine ⟨?_, N3, rfl⟩
  rw [own_narc hci]
def Q_str_pre_3_1 (Z : State) (gF : Value) (h0 : Heap) (n0 : Nat) (v : Option Value) (h : Heap) (L : List Loc) : Prop := v = some (.int 1) ∧ Fr n0 L ∧ h = h0
theorem ef_str_pre_3_1 (m : MethodId) (gF : Value) (rgF : gF.isRef = true) : entryFrame m #[(.int (1 : Int32)), (.int (3 : Int32)), gF] 3 = mkF m 0 #[.val (.int (1 : Int32)), .val (.int (3 : Int32)), .val gF] [] := by rcases ref_cases rgF with rfl | ⟨_, rfl⟩ <;> first | (simp [entryFrame, mkF, argsToLocals, Value.category]; done) | rfl
set_option maxRecDepth 65536 in
set_option maxHeartbeats 40000000 in
theorem str_pre_3_1 (l : Launch) (Z : State) (a0 : Array Value) (hw : ∀ d ∈ tables_1, d.before a0 Z = true) (ws : List Jvm.Cond) (gF : Value) (h0 : Heap) (n0 : Nat) (Z0 : n0 ≤ h0.size) (rgF : gF.isRef = true) :
    MetFree l (⟨"jdk/internal/util/Preconditions", "checkIndex", "(IILjava/util/function/BiFunction;)I"⟩ : MethodName) (head1 (Jvm.Cond.code (⟨"jdk/internal/util/Preconditions", "checkIndex", "(IILjava/util/function/BiFunction;)I"⟩ : MethodName) jdk_41_method_11_code 3 (some .int) :: ws) ({ frames := 0, cells := 0, slots := 0, locals := 0 } : Room)) (fun aa' U1' => aa' = #[(.int (1 : Int32)), (.int (3 : Int32)), gF] ∧ Z.Warmed39 U1'.vm ∧ U1'.heap = h0) (fun _ _ _ _ _ => True) (fun _ U1' oo' U2' => ∃ vv' LL', oo' = .returned vv' ∧ (Q_str_pre_3_1 Z gF h0 n0) vv' U2'.heap LL' ∧ FrameEnd U1' oo' U2' LL' ({ frames := 0, cells := 0, slots := 0, locals := 0 } : Room).cells ({ frames := 0, cells := 0, slots := 0, locals := 0 } : Room).slots) := by
  refine MetFree.of_bodySF (plainFor_of_name pn_jdk_internal_util_Preconditions) hisR ?_
  intro p e s m args below meth c s₁ Bd hml0 hP hK
  obtain ⟨rfl, hZ, hh⟩ := hP
  have hx := Bd.exec
  have hby := Bd.bytes
  have hml : c.maxLocals = 3 := hml0
  have hown : s.vm.findClass "jdk/internal/util/Preconditions" = some m.cls := findClass_of_methodNamed Bd.named
  have hnm := (name_of_methodNamed Bd.named Bd.method).1
  have X0 : Stand p l e ({ frames := 0, cells := 0, slots := 0, locals := 0 } : Room) s m #[(.int (1 : Int32)), (.int (3 : Int32)), gF] below meth c s₁ [] 0 0 := Stand.of_body Bd
  have e0 : s₁.heap = h0 := by rw [← hh, Bd.state]; rfl
  have N0 := Fr.nil n0
  refine go_of (A := s₁.setTop (entryFrame m #[(.int (1 : Int32)), (.int (3 : Int32)), gF] 3)) (B := s₁.setTop (mkF m 0 #[.val (.int (1 : Int32)), .val (.int (3 : Int32)), .val gF] [])) (fun _ kk' => castTop (ef_str_pre_3_1 m gF rgF) kk') ?_
  refine go_of (B := (s₁.setTop (mkF m 1 #[.val (.int (1 : Int32)), .val (.int (3 : Int32)), .val gF] [(.int (1 : Int32))]))) (fun _ kk => XS.iloadN X0.here hx rfl (hb hby d15_0) rfl kk) ?_
  refine go_of (B := (s₁.setTop (mkF m 4 #[.val (.int (1 : Int32)), .val (.int (3 : Int32)), .val gF] []))) (fun _ kk => XS.ifNo X0.here hx rfl (hb hby d15_1) rfl ((if0 _ _).trans (flt (by decide : ¬ ((1 : Int32) < (0 : Int32)))).1) kk) ?_
  refine go_of (B := (s₁.setTop (mkF m 5 #[.val (.int (1 : Int32)), .val (.int (3 : Int32)), .val gF] [(.int (1 : Int32))]))) (fun _ kk => XS.iloadN X0.here hx rfl (hb hby d15_4) rfl kk) ?_
  refine go_of (B := (s₁.setTop (mkF m 6 #[.val (.int (1 : Int32)), .val (.int (3 : Int32)), .val gF] [(.int (3 : Int32)), (.int (1 : Int32))]))) (fun _ kk => XS.iloadN X0.here hx rfl (hb hby d15_5) rfl kk) ?_
  refine go_of (B := (s₁.setTop (mkF m 16 #[.val (.int (1 : Int32)), .val (.int (3 : Int32)), .val gF] []))) (fun _ kk => XS.icmpYes X0.here hx rfl (pc0 := 6) (pc' := 16) rfl (hb hby d15_6) rfl (tlt (by decide : (1 : Int32) < (3 : Int32))).1 (by decide) (by decide) kk) ?_
  refine go_of (B := (s₁.setTop (mkF m 17 #[.val (.int (1 : Int32)), .val (.int (3 : Int32)), .val gF] [(.int (1 : Int32))]))) (fun _ kk => XS.iloadN X0.here hx rfl (hb hby d15_16) rfl kk) ?_
  refine go_end X0 (v := some (.int (1 : Int32))) (fun h => by rw [Bd.returns] at h; cases h) Bd.notSynchronized (by decide) (by decide) (Q := (Q_str_pre_3_1 Z gF h0 n0)) ?_ (fun fs hr => own_retI X0 hx Bd.returns (hb hby d15_17) hr)
  show (fun (v : Option Value) (h : Heap) (L : List Loc) => v = some (.int 1) ∧ Fr n0 L ∧ h = h0) (some (.int (1 : Int32))) s₁.heap _
  rw [e0]
  exact ⟨rfl, N0, rfl⟩
def Q_str_chk_3_1 (Z : State) (gF : Value) (h0 : Heap) (n0 : Nat) (v : Option Value) (h : Heap) (L : List Loc) : Prop := v = none ∧ Fr n0 L ∧ h = h0
theorem ef_str_chk_3_1 (m : MethodId)   : entryFrame m #[(.int (1 : Int32)), (.int (3 : Int32))] 2 = mkF m 0 #[.val (.int (1 : Int32)), .val (.int (3 : Int32))] [] := by first | (simp [entryFrame, mkF, argsToLocals, Value.category]; done) | rfl
set_option maxRecDepth 65536 in
set_option maxHeartbeats 40000000 in
theorem str_chk_3_1 (l : Launch) (Z : State) (a0 : Array Value) (hw : ∀ d ∈ tables_1, d.before a0 Z = true) (ws : List Jvm.Cond) (gF : Value) (h0 : Heap) (n0 : Nat) (Z0 : n0 ≤ h0.size) (O : Old Z n0 h0) (SF : Sta Z Z.heap "jdk/internal/util/Preconditions" "SIOOBE_FORMATTER" "Ljava/util/function/BiFunction;" gF) (rgF : gF.isRef = true) :
    MetFree l (⟨"java/lang/String", "checkIndex", "(II)V"⟩ : MethodName) (head1 (Jvm.Cond.code (⟨"java/lang/String", "checkIndex", "(II)V"⟩ : MethodName) jdk_42_method_155_code 2 none :: ws) ({ frames := 1, cells := 0, slots := 0, locals := 14 } : Room)) (fun aa' U1' => aa' = #[(.int (1 : Int32)), (.int (3 : Int32))] ∧ Z.Warmed39 U1'.vm ∧ U1'.heap = h0) (fun _ _ _ _ _ => True) (fun _ U1' oo' U2' => ∃ vv' LL', oo' = .returned vv' ∧ (Q_str_chk_3_1 Z gF h0 n0) vv' U2'.heap LL' ∧ FrameEnd U1' oo' U2' LL' ({ frames := 1, cells := 0, slots := 0, locals := 14 } : Room).cells ({ frames := 1, cells := 0, slots := 0, locals := 14 } : Room).slots) := by
  refine MetFree.of_bodySF (plainFor_of_name pn_java_lang_String) hisR ?_
  intro p e s m args below meth c s₁ Bd hml0 hP hK
  obtain ⟨rfl, hZ, hh⟩ := hP
  have hx := Bd.exec
  have hby := Bd.bytes
  have hml : c.maxLocals = 2 := hml0
  have hown : s.vm.findClass "java/lang/String" = some m.cls := findClass_of_methodNamed Bd.named
  have hnm := (name_of_methodNamed Bd.named Bd.method).1
  have X0 : Stand p l e ({ frames := 1, cells := 0, slots := 0, locals := 14 } : Room) s m #[(.int (1 : Int32)), (.int (3 : Int32))] below meth c s₁ [] 0 0 := Stand.of_body Bd
  have e0 : s₁.heap = h0 := by rw [← hh, Bd.state]; rfl
  have N0 := Fr.nil n0
  refine go_of (A := s₁.setTop (entryFrame m #[(.int (1 : Int32)), (.int (3 : Int32))] 2)) (B := s₁.setTop (mkF m 0 #[.val (.int (1 : Int32)), .val (.int (3 : Int32))] [])) (fun _ kk' => castTop (ef_str_chk_3_1 m ) kk') ?_
  refine go_of (B := (s₁.setTop (mkF m 1 #[.val (.int (1 : Int32)), .val (.int (3 : Int32))] [(.int (1 : Int32))]))) (fun _ kk => XS.iloadN X0.here hx rfl (hb hby d14_0) rfl kk) ?_
  refine go_of (B := (s₁.setTop (mkF m 2 #[.val (.int (1 : Int32)), .val (.int (3 : Int32))] [(.int (3 : Int32)), (.int (1 : Int32))]))) (fun _ kk => XS.iloadN X0.here hx rfl (hb hby d14_1) rfl kk) ?_
  obtain ⟨T1, X1, e1, st1⟩ := getS2 X0 hx hZ hown (host := "") (Or.inl (hw _ (List.mem_of_getElem? (i := 65) rfl))) Via.refl e0 (SF.ext O.2) (g := (mkF m 2 #[.val (.int (1 : Int32)), .val (.int (3 : Int32))] [(.int (3 : Int32)), (.int (1 : Int32))])) rfl (hb hby d14_2)
  refine go_of (B := (T1.setTop (mkF m 5 #[.val (.int (1 : Int32)), .val (.int (3 : Int32))] [gF, (.int (3 : Int32)), (.int (1 : Int32))]))) (st1) ?_
  obtain ⟨_, _, ⟨T2, L2, k2, n2⟩, -, X2, ⟨Lc2, hQ2, l2, y2, z2⟩, st2⟩ := Jvm.LawKit.callS X1 hx (y := (⟨"jdk/internal/util/Preconditions", "checkIndex", "(IILjava/util/function/BiFunction;)I"⟩ : MethodName)) hown (mvT hZ (hw _ (List.mem_of_getElem? (i := 67) rfl))) (mvT hZ (hw _ (List.mem_of_getElem? (i := 68) rfl))) (mvT hZ (hw _ (List.mem_of_getElem? (i := 66) rfl))) (mvT hZ (hw _ (List.mem_of_getElem? (i := 69) rfl))) (by decide) (backOf (W := 0) (str_pre_3_1 l Z a0 hw [] gF h0 n0 Z0 rgF) hZ (hw _ (List.mem_of_getElem? (i := 69) rfl)) (hw _ (List.mem_of_getElem? (i := 66) rfl)) (by decide) (by decide)) (g := (mkF m 5 #[.val (.int (1 : Int32)), .val (.int (3 : Int32))] [gF, (.int (3 : Int32)), (.int (1 : Int32))])) rfl (by rw [hml]; rfl) (argsL := [(.int (1 : Int32)), (.int (3 : Int32)), gF]) (rest := []) (lenOf pd__IILjava_util_function_BiFunction__I rfl) rfl (by show 2 * 0 + _ ≤ _; exact Nat.le_of_eq rfl) (hb hby d14_5) (fun _ _ => ⟨rfl, e1, (by decide : 0 + 0 ≤ _), (by decide : 0 + 0 ≤ _)⟩)
  dsimp only [Pt.U, Pt.locs, Pt.cells, Pt.slots] at X2 l2 y2 z2 st2 hQ2
  subst l2 y2 z2
  obtain ⟨rfl, N2q, e2⟩ := hQ2
  have N2 := Fr.app N0 N2q
  refine go_of (B := (T2.setTop (mkF m 8 #[.val (.int (1 : Int32)), .val (.int (3 : Int32))] [(.int (1 : Int32))]))) (st2) ?_
  refine go_of (B := (T2.setTop (mkF m 9 #[.val (.int (1 : Int32)), .val (.int (3 : Int32))] []))) (fun _ kk => XS.pop X2.here hx rfl (hb hby d14_8) rfl rfl kk) ?_
  refine go_end X2 (v := none) (fun _ => rfl) Bd.notSynchronized (by decide) (by decide) (Q := (Q_str_chk_3_1 Z gF h0 n0)) ?_ (fun fs hr => X2.returnOut hx Bd.returns (hb hby d14_9) hr)
  show (fun (v : Option Value) (h : Heap) (L : List Loc) => v = none ∧ Fr n0 L ∧ h = h0) (none) T2.heap _
  rw [e2]
  exact ⟨rfl, N2, rfl⟩
def Q_str_lch_3_1 (Z : State) (t : Addr) (c0 : Int32) (c1 : Int32) (c2 : Int32) (k : ClassId) (gF : Value) (h0 : Heap) (n0 : Nat) (v : Option Value) (h : Heap) (L : List Loc) : Prop := v = some (.int c1) ∧ Fr n0 L ∧ h = h0
theorem ef_str_lch_3_1 (m : MethodId) (t : Addr)  : entryFrame m #[(.ref t), (.int (1 : Int32))] 2 = mkF m 0 #[.val (.ref t), .val (.int (1 : Int32))] [] := by first | (simp [entryFrame, mkF, argsToLocals, Value.category]; done) | rfl
set_option maxRecDepth 65536 in
set_option maxHeartbeats 40000000 in
theorem str_lch_3_1 (l : Launch) (Z : State) (a0 : Array Value) (hw : ∀ d ∈ tables_1, d.before a0 Z = true) (ws : List Jvm.Cond) (t : Addr) (c0 : Int32) (c1 : Int32) (c2 : Int32) (k : ClassId) (gF : Value) (h0 : Heap) (n0 : Nat) (Z0 : n0 ≤ h0.size) (O : Old Z n0 h0) (SF : Sta Z Z.heap "jdk/internal/util/Preconditions" "SIOOBE_FORMATTER" "Ljava/util/function/BiFunction;" gF) (rgF : gF.isRef = true) (Va : Arv Z h0 t k .byte 3 [(.int (own_b8 c0)), (.int (own_b8 c1)), (.int (own_b8 c2))] (.int 0)) (hci : ¬ c1 < 0 ∧ ¬ (255 : Int32) < c1) :
    MetFree l (⟨"java/lang/StringLatin1", "charAt", "([BI)C"⟩ : MethodName) (head1 (Jvm.Cond.code (⟨"java/lang/StringLatin1", "charAt", "([BI)C"⟩ : MethodName) jdk_43_method_2_code 2 (some .char) :: ws) ({ frames := 2, cells := 0, slots := 0, locals := 27 } : Room)) (fun aa' U1' => aa' = #[(.ref t), (.int (1 : Int32))] ∧ Z.Warmed39 U1'.vm ∧ U1'.heap = h0) (fun _ _ _ _ _ => True) (fun _ U1' oo' U2' => ∃ vv' LL', oo' = .returned vv' ∧ (Q_str_lch_3_1 Z t c0 c1 c2 k gF h0 n0) vv' U2'.heap LL' ∧ FrameEnd U1' oo' U2' LL' ({ frames := 2, cells := 0, slots := 0, locals := 27 } : Room).cells ({ frames := 2, cells := 0, slots := 0, locals := 27 } : Room).slots) := by
  refine MetFree.of_bodySF (plainFor_of_name pn_java_lang_StringLatin1) hisR ?_
  intro p e s m args below meth c s₁ Bd hml0 hP hK
  obtain ⟨rfl, hZ, hh⟩ := hP
  have hx := Bd.exec
  have hby := Bd.bytes
  have hml : c.maxLocals = 2 := hml0
  have hown : s.vm.findClass "java/lang/StringLatin1" = some m.cls := findClass_of_methodNamed Bd.named
  have hnm := (name_of_methodNamed Bd.named Bd.method).1
  have X0 : Stand p l e ({ frames := 2, cells := 0, slots := 0, locals := 27 } : Room) s m #[(.ref t), (.int (1 : Int32))] below meth c s₁ [] 0 0 := Stand.of_body Bd
  have e0 : s₁.heap = h0 := by rw [← hh, Bd.state]; rfl
  have N0 := Fr.nil n0
  refine go_of (A := s₁.setTop (entryFrame m #[(.ref t), (.int (1 : Int32))] 2)) (B := s₁.setTop (mkF m 0 #[.val (.ref t), .val (.int (1 : Int32))] [])) (fun _ kk' => castTop (ef_str_lch_3_1 m t) kk') ?_
  refine go_of (B := (s₁.setTop (mkF m 1 #[.val (.ref t), .val (.int (1 : Int32))] [(.int (1 : Int32))]))) (fun _ kk => XS.iloadN X0.here hx rfl (hb hby d13_0) rfl kk) ?_
  refine go_of (B := (s₁.setTop (mkF m 2 #[.val (.ref t), .val (.int (1 : Int32))] [(.ref t), (.int (1 : Int32))]))) (fun _ kk => XS.aloadN X0.here hx rfl (hb hby d13_1) rfl rfl kk) ?_
  obtain ⟨cl1, Ar1, q1, Sz1, Nn1, Hh1, G1⟩ := id (Va)
  have ln1 := len_of Sz1 Nn1
  refine go_of (B := (s₁.setTop (mkF m 3 #[.val (.ref t), .val (.int (1 : Int32))] [(.int (3 : Int32)), (.int (1 : Int32))]))) (fun _ kk => X0.arraylength hx (by rw [e0]; exact Ar1.1) (State.isArrayOf_alike hZ.alike Ar1.2.1) (g := (mkF m 2 #[.val (.ref t), .val (.int (1 : Int32))] [(.ref t), (.int (1 : Int32))])) rfl rfl (hb hby d13_2) _ (by rw [ln1]; exact kk)) ?_
  obtain ⟨_, _, ⟨T2, L2, k2, n2⟩, -, X2, ⟨Lc2, hQ2, l2, y2, z2⟩, st2⟩ := Jvm.LawKit.callS X0 hx (y := (⟨"java/lang/String", "checkIndex", "(II)V"⟩ : MethodName)) hown (mvT hZ (hw _ (List.mem_of_getElem? (i := 62) rfl))) (mvT hZ (hw _ (List.mem_of_getElem? (i := 63) rfl))) (mvT hZ (hw _ (List.mem_of_getElem? (i := 3) rfl))) (mvT hZ (hw _ (List.mem_of_getElem? (i := 64) rfl))) (by decide) (backOf (W := 0) (str_chk_3_1 l Z a0 hw [] gF h0 n0 Z0 O SF rgF) hZ (hw _ (List.mem_of_getElem? (i := 64) rfl)) (hw _ (List.mem_of_getElem? (i := 3) rfl)) (by decide) (by decide)) (g := (mkF m 3 #[.val (.ref t), .val (.int (1 : Int32))] [(.int (3 : Int32)), (.int (1 : Int32))])) rfl (by rw [hml]; rfl) (argsL := [(.int (1 : Int32)), (.int (3 : Int32))]) (rest := []) (lenOf pd__II_V rfl) rfl (by show 2 * 0 + _ ≤ _; exact Nat.le_of_eq rfl) (hb hby d13_3) (fun _ _ => ⟨rfl, e0, (by decide : 0 + 0 ≤ _), (by decide : 0 + 0 ≤ _)⟩)
  dsimp only [Pt.U, Pt.locs, Pt.cells, Pt.slots] at X2 l2 y2 z2 st2 hQ2
  subst l2 y2 z2
  obtain ⟨rfl, N2q, e2⟩ := hQ2
  have N2 := Fr.app N0 N2q
  refine go_of (B := (T2.setTop (mkF m 6 #[.val (.ref t), .val (.int (1 : Int32))] []))) (st2) ?_
  refine go_of (B := (T2.setTop (mkF m 7 #[.val (.ref t), .val (.int (1 : Int32))] [(.ref t)]))) (fun _ kk => XS.aloadN X2.here hx rfl (hb hby d13_6) rfl rfl kk) ?_
  refine go_of (B := (T2.setTop (mkF m 8 #[.val (.ref t), .val (.int (1 : Int32))] [(.int (1 : Int32)), (.ref t)]))) (fun _ kk => XS.iloadN X2.here hx rfl (hb hby d13_7) rfl kk) ?_
  obtain ⟨cl3, Ar3, q3, Sz3, Nn3, Hh3, G3⟩ := id (Va)
  refine go_of (B := (T2.setTop (mkF m 9 #[.val (.ref t), .val (.int (1 : Int32))] [(.int (own_b8 c1))]))) (fun _ kk => X2.baloadBytes hx (j := (1 : Int32)) (v := (.int (own_b8 c1))) (by rw [e2]; exact Ar3.1) (State.isArrayOf_alike hZ.alike Ar3.2.1) Ar3.2.2 (inb_of Sz3 ⟨by decide, by decide⟩) (Hh3.at (inb_of Sz3 ⟨by decide, by decide⟩) rfl) (g := (mkF m 8 #[.val (.ref t), .val (.int (1 : Int32))] [(.int (1 : Int32)), (.ref t)])) rfl rfl (hb hby d13_8) _ kk) ?_
  refine go_of (B := (T2.setTop (mkF m 12 #[.val (.ref t), .val (.int (1 : Int32))] [(.int (255 : Int32)), (.int (own_b8 c1))]))) (fun _ kk => XS.sipush X2.here hx rfl (hb hby d13_9) kk) ?_
  refine go_of (B := (T2.setTop (mkF m 13 #[.val (.ref t), .val (.int (1 : Int32))] [(.int ((own_b8 c1) &&& (255 : Int32)))]))) (fun _ kk => XS.iand X2.here hx rfl (hb hby d13_12) rfl kk) ?_
  refine go_of (B := (T2.setTop (mkF m 14 #[.val (.ref t), .val (.int (1 : Int32))] [(.int (((own_b8 c1) &&& (255 : Int32)).toUInt32.toUInt16.toUInt32.toInt32))]))) (fun _ kk => XS.i2c X2.here hx rfl (hb hby d13_13) rfl kk) ?_
  refine go_end X2 (v := some (.int (nar .char (((own_b8 c1) &&& (255 : Int32)).toUInt32.toUInt16.toUInt32.toInt32)))) (fun h => by rw [Bd.returns] at h; cases h) Bd.notSynchronized (by decide) (by decide) (Q := (Q_str_lch_3_1 Z t c0 c1 c2 k gF h0 n0)) ?_ (fun fs hr => retN X2 hx (t := .char) Bd.returns (by simp) (hb hby d13_14) hr)
  show (fun (v : Option Value) (h : Heap) (L : List Loc) => v = some (.int c1) ∧ Fr n0 L ∧ h = h0) (some (.int (nar .char (((own_b8 c1) &&& (255 : Int32)).toUInt32.toUInt16.toUInt32.toInt32)))) T2.heap _
  rw [e2]
  refine ⟨?_, N2, rfl⟩
  rw [own_b255 hci, own_narc hci]
def Q_str_ch_3_1 (Z : State) (a : Addr) (c0 : Int32) (c1 : Int32) (c2 : Int32) (gC : Int32) (gF : Value) (h0 : Heap) (n0 : Nat) (v : Option Value) (h : Heap) (L : List Loc) : Prop := v = some (.int c1) ∧ Fr n0 L ∧ h = h0
theorem ef_str_ch_3_1 (m : MethodId) (a : Addr)  : entryFrame m #[(.ref a), (.int (1 : Int32))] 2 = mkF m 0 #[.val (.ref a), .val (.int (1 : Int32))] [] := by first | (simp [entryFrame, mkF, argsToLocals, Value.category]; done) | rfl
set_option maxRecDepth 65536 in
set_option maxHeartbeats 40000000 in
theorem str_ch_3_1 (l : Launch) (Z : State) (a0 : Array Value) (hw : ∀ d ∈ tables_1, d.before a0 Z = true) (ws : List Jvm.Cond) (a : Addr) (c0 : Int32) (c1 : Int32) (c2 : Int32) (gC : Int32) (gF : Value) (h0 : Heap) (n0 : Nat) (Z0 : n0 ≤ h0.size) (O : Old Z n0 h0) (SC : Sta Z Z.heap "java/lang/String" "COMPACT_STRINGS" "Z" (.int gC)) (hgC : ¬ gC = (0 : Int32)) (S : Str Z h0 a 3 [c0, c1, c2]) (SF : Sta Z Z.heap "jdk/internal/util/Preconditions" "SIOOBE_FORMATTER" "Ljava/util/function/BiFunction;" gF) (rgF : gF.isRef = true) :
    MetFree l (⟨"java/lang/String", "charAt", "(I)C"⟩ : MethodName) (head1 (Jvm.Cond.code (⟨"java/lang/String", "charAt", "(I)C"⟩ : MethodName) jdk_42_method_56_code 2 (some .char) :: ws) ({ frames := 3, cells := 0, slots := 0, locals := 40 } : Room)) (fun aa' U1' => aa' = #[(.ref a), (.int (1 : Int32))] ∧ Z.Warmed39 U1'.vm ∧ U1'.heap = h0) (fun _ _ _ _ _ => True) (fun _ U1' oo' U2' => ∃ vv' LL', oo' = .returned vv' ∧ (Q_str_ch_3_1 Z a c0 c1 c2 gC gF h0 n0) vv' U2'.heap LL' ∧ FrameEnd U1' oo' U2' LL' ({ frames := 3, cells := 0, slots := 0, locals := 40 } : Room).cells ({ frames := 3, cells := 0, slots := 0, locals := 40 } : Room).slots) := by
  refine MetFree.of_bodySF (plainFor_of_name pn_java_lang_String) hisR ?_
  intro p e s m args below meth c s₁ Bd hml0 hP hK
  obtain ⟨rfl, hZ, hh⟩ := hP
  have hx := Bd.exec
  have hby := Bd.bytes
  have hml : c.maxLocals = 2 := hml0
  have hown : s.vm.findClass "java/lang/String" = some m.cls := findClass_of_methodNamed Bd.named
  have hnm := (name_of_methodNamed Bd.named Bd.method).1
  have X0 : Stand p l e ({ frames := 3, cells := 0, slots := 0, locals := 40 } : Room) s m #[(.ref a), (.int (1 : Int32))] below meth c s₁ [] 0 0 := Stand.of_body Bd
  have e0 : s₁.heap = h0 := by rw [← hh, Bd.state]; rfl
  have N0 := Fr.nil n0
  obtain ⟨t, k, Ea, Fc, Fv, Va, hcs⟩ := S
  have lta := own_nlt (Ea.lt)
  have ltt := own_nlt (Va.lt)
  have hci : ¬ c1 < 0 ∧ ¬ (255 : Int32) < c1 := hcs c1 (List.mem_of_getElem? (i := 1) rfl)
  refine go_of (A := s₁.setTop (entryFrame m #[(.ref a), (.int (1 : Int32))] 2)) (B := s₁.setTop (mkF m 0 #[.val (.ref a), .val (.int (1 : Int32))] [])) (fun _ kk' => castTop (ef_str_ch_3_1 m a) kk') ?_
  refine go_of (B := (s₁.setTop (mkF m 1 #[.val (.ref a), .val (.int (1 : Int32))] [(.ref a)]))) (fun _ kk => XS.aloadN X0.here hx rfl (hb hby d11_0) rfl rfl kk) ?_
  obtain ⟨cq1, kq1, q1a, q1b, q1c⟩ := isOf hZ e0 Ea
  obtain ⟨_, _, ⟨T1, L1, k1, n1⟩, -, X1, ⟨Lc1, hQ1, l1, y1, z1⟩, st1⟩ := X0.virtualBack hx (y := (⟨"java/lang/String", "isLatin1", "()Z"⟩ : MethodName)) (z := (⟨"java/lang/String", "isLatin1", "()Z"⟩ : MethodName)) hown (mvT hZ (hw _ (List.mem_of_getElem? (i := 53) rfl))) (mvT hZ (hw _ (List.mem_of_getElem? (i := 54) rfl))) (notFace_of_selects (args := #[]) (mvT hZ (hw _ (List.mem_of_getElem? (i := 56) rfl)))) (mvT hZ (hw _ (List.mem_of_getElem? (i := 56) rfl))) (mvT hZ (hw _ (List.mem_of_getElem? (i := 55) rfl))) (by decide) (backOf (W := 0) (str_latin l Z a0 hw [] a gC h0 n0 Z0 O SC hgC Fc) hZ (hw _ (List.mem_of_getElem? (i := 57) rfl)) (hw _ (List.mem_of_getElem? (i := 3) rfl)) (by decide) (by decide)) q1a q1c (g := (mkF m 1 #[.val (.ref a), .val (.int (1 : Int32))] [(.ref a)])) rfl (by rw [hml]; rfl) (Steps.refl _) (argsL := []) (rest := []) (lenOf pd___Z rfl) rfl (by show 2 * 0 + _ ≤ _; exact Nat.le_of_eq rfl) (hb hby d11_1) (fun _ _ => ⟨rfl, e0, (by decide : 0 + 0 ≤ _), (by decide : 0 + 0 ≤ _)⟩)
  dsimp only [Pt.U, Pt.locs, Pt.cells, Pt.slots] at X1 l1 y1 z1 st1 hQ1
  subst l1 y1 z1
  obtain ⟨rfl, N1q, e1⟩ := hQ1
  have N1 := Fr.app N0 N1q
  refine go_tr (B := (T1.setTop (mkF m 4 #[.val (.ref a), .val (.int (1 : Int32))] [(.int (1 : Int32))]))) (st1) ?_
  refine go_of (B := (T1.setTop (mkF m 7 #[.val (.ref a), .val (.int (1 : Int32))] []))) (fun _ kk => XS.ifNo X1.here hx rfl (hb hby d11_4) rfl ((if0 _ _).trans (feq (by decide : ¬ ((1 : Int32) = (0 : Int32)))).1) kk) ?_
  refine go_of (B := (T1.setTop (mkF m 8 #[.val (.ref a), .val (.int (1 : Int32))] [(.ref a)]))) (fun _ kk => XS.aloadN X1.here hx rfl (hb hby d11_7) rfl rfl kk) ?_
  obtain ⟨T2, X2, e2, st2⟩ := getF X1 hx hZ hown (host := "") (Or.inl (hw _ (List.mem_of_getElem? (i := 28) rfl))) Via.refl e1 Fv (g := (mkF m 8 #[.val (.ref a), .val (.int (1 : Int32))] [(.ref a)])) rfl rfl (hb hby d11_8)
  refine go_of (B := (T2.setTop (mkF m 11 #[.val (.ref a), .val (.int (1 : Int32))] [(.ref t)]))) (st2) ?_
  refine go_of (B := (T2.setTop (mkF m 12 #[.val (.ref a), .val (.int (1 : Int32))] [(.int (1 : Int32)), (.ref t)]))) (fun _ kk => XS.iloadN X2.here hx rfl (hb hby d11_11) rfl kk) ?_
  obtain ⟨_, _, ⟨T3, L3, k3, n3⟩, -, X3, ⟨Lc3, hQ3, l3, y3, z3⟩, st3⟩ := Jvm.LawKit.callS X2 hx (y := (⟨"java/lang/StringLatin1", "charAt", "([BI)C"⟩ : MethodName)) hown (mvT hZ (hw _ (List.mem_of_getElem? (i := 58) rfl))) (mvT hZ (hw _ (List.mem_of_getElem? (i := 59) rfl))) (mvT hZ (hw _ (List.mem_of_getElem? (i := 60) rfl))) (mvT hZ (hw _ (List.mem_of_getElem? (i := 61) rfl))) (by decide) (backOf (W := 0) (str_lch_3_1 l Z a0 hw [] t c0 c1 c2 k gF h0 n0 Z0 O SF rgF Va hci) hZ (hw _ (List.mem_of_getElem? (i := 61) rfl)) (hw _ (List.mem_of_getElem? (i := 60) rfl)) (by decide) (by decide)) (g := (mkF m 12 #[.val (.ref a), .val (.int (1 : Int32))] [(.int (1 : Int32)), (.ref t)])) rfl (by rw [hml]; rfl) (argsL := [(.ref t), (.int (1 : Int32))]) (rest := []) (lenOf pd___BI_C rfl) rfl (by show 2 * 0 + _ ≤ _; exact Nat.le_of_eq rfl) (hb hby d11_12) (fun _ _ => ⟨rfl, e2, (by decide : 0 + 0 ≤ _), (by decide : 0 + 0 ≤ _)⟩)
  dsimp only [Pt.U, Pt.locs, Pt.cells, Pt.slots] at X3 l3 y3 z3 st3 hQ3
  subst l3 y3 z3
  obtain ⟨rfl, N3q, e3⟩ := hQ3
  have N3 := Fr.app N1 N3q
  refine go_of (B := (T3.setTop (mkF m 15 #[.val (.ref a), .val (.int (1 : Int32))] [(.int c1)]))) (st3) ?_
  refine go_end X3 (v := some (.int (nar .char c1))) (fun h => by rw [Bd.returns] at h; cases h) Bd.notSynchronized (by decide) (by decide) (Q := (Q_str_ch_3_1 Z a c0 c1 c2 gC gF h0 n0)) ?_ (fun fs hr => retN X3 hx (t := .char) Bd.returns (by simp) (hb hby d11_15) hr)
  show (fun (v : Option Value) (h : Heap) (L : List Loc) => v = some (.int c1) ∧ Fr n0 L ∧ h = h0) (some (.int (nar .char c1))) T3.heap _
  rw [e3]
  refine ⟨?_, N3, rfl⟩
  rw [own_narc hci]
def Q_str_pre_3_2 (Z : State) (gF : Value) (h0 : Heap) (n0 : Nat) (v : Option Value) (h : Heap) (L : List Loc) : Prop := v = some (.int 2) ∧ Fr n0 L ∧ h = h0
theorem ef_str_pre_3_2 (m : MethodId) (gF : Value) (rgF : gF.isRef = true) : entryFrame m #[(.int (2 : Int32)), (.int (3 : Int32)), gF] 3 = mkF m 0 #[.val (.int (2 : Int32)), .val (.int (3 : Int32)), .val gF] [] := by rcases ref_cases rgF with rfl | ⟨_, rfl⟩ <;> first | (simp [entryFrame, mkF, argsToLocals, Value.category]; done) | rfl
set_option maxRecDepth 65536 in
set_option maxHeartbeats 40000000 in
theorem str_pre_3_2 (l : Launch) (Z : State) (a0 : Array Value) (hw : ∀ d ∈ tables_1, d.before a0 Z = true) (ws : List Jvm.Cond) (gF : Value) (h0 : Heap) (n0 : Nat) (Z0 : n0 ≤ h0.size) (rgF : gF.isRef = true) :
    MetFree l (⟨"jdk/internal/util/Preconditions", "checkIndex", "(IILjava/util/function/BiFunction;)I"⟩ : MethodName) (head1 (Jvm.Cond.code (⟨"jdk/internal/util/Preconditions", "checkIndex", "(IILjava/util/function/BiFunction;)I"⟩ : MethodName) jdk_41_method_11_code 3 (some .int) :: ws) ({ frames := 0, cells := 0, slots := 0, locals := 0 } : Room)) (fun aa' U1' => aa' = #[(.int (2 : Int32)), (.int (3 : Int32)), gF] ∧ Z.Warmed39 U1'.vm ∧ U1'.heap = h0) (fun _ _ _ _ _ => True) (fun _ U1' oo' U2' => ∃ vv' LL', oo' = .returned vv' ∧ (Q_str_pre_3_2 Z gF h0 n0) vv' U2'.heap LL' ∧ FrameEnd U1' oo' U2' LL' ({ frames := 0, cells := 0, slots := 0, locals := 0 } : Room).cells ({ frames := 0, cells := 0, slots := 0, locals := 0 } : Room).slots) := by
  refine MetFree.of_bodySF (plainFor_of_name pn_jdk_internal_util_Preconditions) hisR ?_
  intro p e s m args below meth c s₁ Bd hml0 hP hK
  obtain ⟨rfl, hZ, hh⟩ := hP
  have hx := Bd.exec
  have hby := Bd.bytes
  have hml : c.maxLocals = 3 := hml0
  have hown : s.vm.findClass "jdk/internal/util/Preconditions" = some m.cls := findClass_of_methodNamed Bd.named
  have hnm := (name_of_methodNamed Bd.named Bd.method).1
  have X0 : Stand p l e ({ frames := 0, cells := 0, slots := 0, locals := 0 } : Room) s m #[(.int (2 : Int32)), (.int (3 : Int32)), gF] below meth c s₁ [] 0 0 := Stand.of_body Bd
  have e0 : s₁.heap = h0 := by rw [← hh, Bd.state]; rfl
  have N0 := Fr.nil n0
  refine go_of (A := s₁.setTop (entryFrame m #[(.int (2 : Int32)), (.int (3 : Int32)), gF] 3)) (B := s₁.setTop (mkF m 0 #[.val (.int (2 : Int32)), .val (.int (3 : Int32)), .val gF] [])) (fun _ kk' => castTop (ef_str_pre_3_2 m gF rgF) kk') ?_
  refine go_of (B := (s₁.setTop (mkF m 1 #[.val (.int (2 : Int32)), .val (.int (3 : Int32)), .val gF] [(.int (2 : Int32))]))) (fun _ kk => XS.iloadN X0.here hx rfl (hb hby d15_0) rfl kk) ?_
  refine go_of (B := (s₁.setTop (mkF m 4 #[.val (.int (2 : Int32)), .val (.int (3 : Int32)), .val gF] []))) (fun _ kk => XS.ifNo X0.here hx rfl (hb hby d15_1) rfl ((if0 _ _).trans (flt (by decide : ¬ ((2 : Int32) < (0 : Int32)))).1) kk) ?_
  refine go_of (B := (s₁.setTop (mkF m 5 #[.val (.int (2 : Int32)), .val (.int (3 : Int32)), .val gF] [(.int (2 : Int32))]))) (fun _ kk => XS.iloadN X0.here hx rfl (hb hby d15_4) rfl kk) ?_
  refine go_of (B := (s₁.setTop (mkF m 6 #[.val (.int (2 : Int32)), .val (.int (3 : Int32)), .val gF] [(.int (3 : Int32)), (.int (2 : Int32))]))) (fun _ kk => XS.iloadN X0.here hx rfl (hb hby d15_5) rfl kk) ?_
  refine go_of (B := (s₁.setTop (mkF m 16 #[.val (.int (2 : Int32)), .val (.int (3 : Int32)), .val gF] []))) (fun _ kk => XS.icmpYes X0.here hx rfl (pc0 := 6) (pc' := 16) rfl (hb hby d15_6) rfl (tlt (by decide : (2 : Int32) < (3 : Int32))).1 (by decide) (by decide) kk) ?_
  refine go_of (B := (s₁.setTop (mkF m 17 #[.val (.int (2 : Int32)), .val (.int (3 : Int32)), .val gF] [(.int (2 : Int32))]))) (fun _ kk => XS.iloadN X0.here hx rfl (hb hby d15_16) rfl kk) ?_
  refine go_end X0 (v := some (.int (2 : Int32))) (fun h => by rw [Bd.returns] at h; cases h) Bd.notSynchronized (by decide) (by decide) (Q := (Q_str_pre_3_2 Z gF h0 n0)) ?_ (fun fs hr => own_retI X0 hx Bd.returns (hb hby d15_17) hr)
  show (fun (v : Option Value) (h : Heap) (L : List Loc) => v = some (.int 2) ∧ Fr n0 L ∧ h = h0) (some (.int (2 : Int32))) s₁.heap _
  rw [e0]
  exact ⟨rfl, N0, rfl⟩
def Q_str_chk_3_2 (Z : State) (gF : Value) (h0 : Heap) (n0 : Nat) (v : Option Value) (h : Heap) (L : List Loc) : Prop := v = none ∧ Fr n0 L ∧ h = h0
theorem ef_str_chk_3_2 (m : MethodId)   : entryFrame m #[(.int (2 : Int32)), (.int (3 : Int32))] 2 = mkF m 0 #[.val (.int (2 : Int32)), .val (.int (3 : Int32))] [] := by first | (simp [entryFrame, mkF, argsToLocals, Value.category]; done) | rfl
set_option maxRecDepth 65536 in
set_option maxHeartbeats 40000000 in
theorem str_chk_3_2 (l : Launch) (Z : State) (a0 : Array Value) (hw : ∀ d ∈ tables_1, d.before a0 Z = true) (ws : List Jvm.Cond) (gF : Value) (h0 : Heap) (n0 : Nat) (Z0 : n0 ≤ h0.size) (O : Old Z n0 h0) (SF : Sta Z Z.heap "jdk/internal/util/Preconditions" "SIOOBE_FORMATTER" "Ljava/util/function/BiFunction;" gF) (rgF : gF.isRef = true) :
    MetFree l (⟨"java/lang/String", "checkIndex", "(II)V"⟩ : MethodName) (head1 (Jvm.Cond.code (⟨"java/lang/String", "checkIndex", "(II)V"⟩ : MethodName) jdk_42_method_155_code 2 none :: ws) ({ frames := 1, cells := 0, slots := 0, locals := 14 } : Room)) (fun aa' U1' => aa' = #[(.int (2 : Int32)), (.int (3 : Int32))] ∧ Z.Warmed39 U1'.vm ∧ U1'.heap = h0) (fun _ _ _ _ _ => True) (fun _ U1' oo' U2' => ∃ vv' LL', oo' = .returned vv' ∧ (Q_str_chk_3_2 Z gF h0 n0) vv' U2'.heap LL' ∧ FrameEnd U1' oo' U2' LL' ({ frames := 1, cells := 0, slots := 0, locals := 14 } : Room).cells ({ frames := 1, cells := 0, slots := 0, locals := 14 } : Room).slots) := by
  refine MetFree.of_bodySF (plainFor_of_name pn_java_lang_String) hisR ?_
  intro p e s m args below meth c s₁ Bd hml0 hP hK
  obtain ⟨rfl, hZ, hh⟩ := hP
  have hx := Bd.exec
  have hby := Bd.bytes
  have hml : c.maxLocals = 2 := hml0
  have hown : s.vm.findClass "java/lang/String" = some m.cls := findClass_of_methodNamed Bd.named
  have hnm := (name_of_methodNamed Bd.named Bd.method).1
  have X0 : Stand p l e ({ frames := 1, cells := 0, slots := 0, locals := 14 } : Room) s m #[(.int (2 : Int32)), (.int (3 : Int32))] below meth c s₁ [] 0 0 := Stand.of_body Bd
  have e0 : s₁.heap = h0 := by rw [← hh, Bd.state]; rfl
  have N0 := Fr.nil n0
  refine go_of (A := s₁.setTop (entryFrame m #[(.int (2 : Int32)), (.int (3 : Int32))] 2)) (B := s₁.setTop (mkF m 0 #[.val (.int (2 : Int32)), .val (.int (3 : Int32))] [])) (fun _ kk' => castTop (ef_str_chk_3_2 m ) kk') ?_
  refine go_of (B := (s₁.setTop (mkF m 1 #[.val (.int (2 : Int32)), .val (.int (3 : Int32))] [(.int (2 : Int32))]))) (fun _ kk => XS.iloadN X0.here hx rfl (hb hby d14_0) rfl kk) ?_
  refine go_of (B := (s₁.setTop (mkF m 2 #[.val (.int (2 : Int32)), .val (.int (3 : Int32))] [(.int (3 : Int32)), (.int (2 : Int32))]))) (fun _ kk => XS.iloadN X0.here hx rfl (hb hby d14_1) rfl kk) ?_
  obtain ⟨T1, X1, e1, st1⟩ := getS2 X0 hx hZ hown (host := "") (Or.inl (hw _ (List.mem_of_getElem? (i := 65) rfl))) Via.refl e0 (SF.ext O.2) (g := (mkF m 2 #[.val (.int (2 : Int32)), .val (.int (3 : Int32))] [(.int (3 : Int32)), (.int (2 : Int32))])) rfl (hb hby d14_2)
  refine go_of (B := (T1.setTop (mkF m 5 #[.val (.int (2 : Int32)), .val (.int (3 : Int32))] [gF, (.int (3 : Int32)), (.int (2 : Int32))]))) (st1) ?_
  obtain ⟨_, _, ⟨T2, L2, k2, n2⟩, -, X2, ⟨Lc2, hQ2, l2, y2, z2⟩, st2⟩ := Jvm.LawKit.callS X1 hx (y := (⟨"jdk/internal/util/Preconditions", "checkIndex", "(IILjava/util/function/BiFunction;)I"⟩ : MethodName)) hown (mvT hZ (hw _ (List.mem_of_getElem? (i := 67) rfl))) (mvT hZ (hw _ (List.mem_of_getElem? (i := 68) rfl))) (mvT hZ (hw _ (List.mem_of_getElem? (i := 66) rfl))) (mvT hZ (hw _ (List.mem_of_getElem? (i := 69) rfl))) (by decide) (backOf (W := 0) (str_pre_3_2 l Z a0 hw [] gF h0 n0 Z0 rgF) hZ (hw _ (List.mem_of_getElem? (i := 69) rfl)) (hw _ (List.mem_of_getElem? (i := 66) rfl)) (by decide) (by decide)) (g := (mkF m 5 #[.val (.int (2 : Int32)), .val (.int (3 : Int32))] [gF, (.int (3 : Int32)), (.int (2 : Int32))])) rfl (by rw [hml]; rfl) (argsL := [(.int (2 : Int32)), (.int (3 : Int32)), gF]) (rest := []) (lenOf pd__IILjava_util_function_BiFunction__I rfl) rfl (by show 2 * 0 + _ ≤ _; exact Nat.le_of_eq rfl) (hb hby d14_5) (fun _ _ => ⟨rfl, e1, (by decide : 0 + 0 ≤ _), (by decide : 0 + 0 ≤ _)⟩)
  dsimp only [Pt.U, Pt.locs, Pt.cells, Pt.slots] at X2 l2 y2 z2 st2 hQ2
  subst l2 y2 z2
  obtain ⟨rfl, N2q, e2⟩ := hQ2
  have N2 := Fr.app N0 N2q
  refine go_of (B := (T2.setTop (mkF m 8 #[.val (.int (2 : Int32)), .val (.int (3 : Int32))] [(.int (2 : Int32))]))) (st2) ?_
  refine go_of (B := (T2.setTop (mkF m 9 #[.val (.int (2 : Int32)), .val (.int (3 : Int32))] []))) (fun _ kk => XS.pop X2.here hx rfl (hb hby d14_8) rfl rfl kk) ?_
  refine go_end X2 (v := none) (fun _ => rfl) Bd.notSynchronized (by decide) (by decide) (Q := (Q_str_chk_3_2 Z gF h0 n0)) ?_ (fun fs hr => X2.returnOut hx Bd.returns (hb hby d14_9) hr)
  show (fun (v : Option Value) (h : Heap) (L : List Loc) => v = none ∧ Fr n0 L ∧ h = h0) (none) T2.heap _
  rw [e2]
  exact ⟨rfl, N2, rfl⟩
def Q_str_lch_3_2 (Z : State) (t : Addr) (c0 : Int32) (c1 : Int32) (c2 : Int32) (k : ClassId) (gF : Value) (h0 : Heap) (n0 : Nat) (v : Option Value) (h : Heap) (L : List Loc) : Prop := v = some (.int c2) ∧ Fr n0 L ∧ h = h0
theorem ef_str_lch_3_2 (m : MethodId) (t : Addr)  : entryFrame m #[(.ref t), (.int (2 : Int32))] 2 = mkF m 0 #[.val (.ref t), .val (.int (2 : Int32))] [] := by first | (simp [entryFrame, mkF, argsToLocals, Value.category]; done) | rfl
set_option maxRecDepth 65536 in
set_option maxHeartbeats 40000000 in
theorem str_lch_3_2 (l : Launch) (Z : State) (a0 : Array Value) (hw : ∀ d ∈ tables_1, d.before a0 Z = true) (ws : List Jvm.Cond) (t : Addr) (c0 : Int32) (c1 : Int32) (c2 : Int32) (k : ClassId) (gF : Value) (h0 : Heap) (n0 : Nat) (Z0 : n0 ≤ h0.size) (O : Old Z n0 h0) (SF : Sta Z Z.heap "jdk/internal/util/Preconditions" "SIOOBE_FORMATTER" "Ljava/util/function/BiFunction;" gF) (rgF : gF.isRef = true) (Va : Arv Z h0 t k .byte 3 [(.int (own_b8 c0)), (.int (own_b8 c1)), (.int (own_b8 c2))] (.int 0)) (hci : ¬ c2 < 0 ∧ ¬ (255 : Int32) < c2) :
    MetFree l (⟨"java/lang/StringLatin1", "charAt", "([BI)C"⟩ : MethodName) (head1 (Jvm.Cond.code (⟨"java/lang/StringLatin1", "charAt", "([BI)C"⟩ : MethodName) jdk_43_method_2_code 2 (some .char) :: ws) ({ frames := 2, cells := 0, slots := 0, locals := 27 } : Room)) (fun aa' U1' => aa' = #[(.ref t), (.int (2 : Int32))] ∧ Z.Warmed39 U1'.vm ∧ U1'.heap = h0) (fun _ _ _ _ _ => True) (fun _ U1' oo' U2' => ∃ vv' LL', oo' = .returned vv' ∧ (Q_str_lch_3_2 Z t c0 c1 c2 k gF h0 n0) vv' U2'.heap LL' ∧ FrameEnd U1' oo' U2' LL' ({ frames := 2, cells := 0, slots := 0, locals := 27 } : Room).cells ({ frames := 2, cells := 0, slots := 0, locals := 27 } : Room).slots) := by
  refine MetFree.of_bodySF (plainFor_of_name pn_java_lang_StringLatin1) hisR ?_
  intro p e s m args below meth c s₁ Bd hml0 hP hK
  obtain ⟨rfl, hZ, hh⟩ := hP
  have hx := Bd.exec
  have hby := Bd.bytes
  have hml : c.maxLocals = 2 := hml0
  have hown : s.vm.findClass "java/lang/StringLatin1" = some m.cls := findClass_of_methodNamed Bd.named
  have hnm := (name_of_methodNamed Bd.named Bd.method).1
  have X0 : Stand p l e ({ frames := 2, cells := 0, slots := 0, locals := 27 } : Room) s m #[(.ref t), (.int (2 : Int32))] below meth c s₁ [] 0 0 := Stand.of_body Bd
  have e0 : s₁.heap = h0 := by rw [← hh, Bd.state]; rfl
  have N0 := Fr.nil n0
  refine go_of (A := s₁.setTop (entryFrame m #[(.ref t), (.int (2 : Int32))] 2)) (B := s₁.setTop (mkF m 0 #[.val (.ref t), .val (.int (2 : Int32))] [])) (fun _ kk' => castTop (ef_str_lch_3_2 m t) kk') ?_
  refine go_of (B := (s₁.setTop (mkF m 1 #[.val (.ref t), .val (.int (2 : Int32))] [(.int (2 : Int32))]))) (fun _ kk => XS.iloadN X0.here hx rfl (hb hby d13_0) rfl kk) ?_
  refine go_of (B := (s₁.setTop (mkF m 2 #[.val (.ref t), .val (.int (2 : Int32))] [(.ref t), (.int (2 : Int32))]))) (fun _ kk => XS.aloadN X0.here hx rfl (hb hby d13_1) rfl rfl kk) ?_
  obtain ⟨cl1, Ar1, q1, Sz1, Nn1, Hh1, G1⟩ := id (Va)
  have ln1 := len_of Sz1 Nn1
  refine go_of (B := (s₁.setTop (mkF m 3 #[.val (.ref t), .val (.int (2 : Int32))] [(.int (3 : Int32)), (.int (2 : Int32))]))) (fun _ kk => X0.arraylength hx (by rw [e0]; exact Ar1.1) (State.isArrayOf_alike hZ.alike Ar1.2.1) (g := (mkF m 2 #[.val (.ref t), .val (.int (2 : Int32))] [(.ref t), (.int (2 : Int32))])) rfl rfl (hb hby d13_2) _ (by rw [ln1]; exact kk)) ?_
  obtain ⟨_, _, ⟨T2, L2, k2, n2⟩, -, X2, ⟨Lc2, hQ2, l2, y2, z2⟩, st2⟩ := Jvm.LawKit.callS X0 hx (y := (⟨"java/lang/String", "checkIndex", "(II)V"⟩ : MethodName)) hown (mvT hZ (hw _ (List.mem_of_getElem? (i := 62) rfl))) (mvT hZ (hw _ (List.mem_of_getElem? (i := 63) rfl))) (mvT hZ (hw _ (List.mem_of_getElem? (i := 3) rfl))) (mvT hZ (hw _ (List.mem_of_getElem? (i := 64) rfl))) (by decide) (backOf (W := 0) (str_chk_3_2 l Z a0 hw [] gF h0 n0 Z0 O SF rgF) hZ (hw _ (List.mem_of_getElem? (i := 64) rfl)) (hw _ (List.mem_of_getElem? (i := 3) rfl)) (by decide) (by decide)) (g := (mkF m 3 #[.val (.ref t), .val (.int (2 : Int32))] [(.int (3 : Int32)), (.int (2 : Int32))])) rfl (by rw [hml]; rfl) (argsL := [(.int (2 : Int32)), (.int (3 : Int32))]) (rest := []) (lenOf pd__II_V rfl) rfl (by show 2 * 0 + _ ≤ _; exact Nat.le_of_eq rfl) (hb hby d13_3) (fun _ _ => ⟨rfl, e0, (by decide : 0 + 0 ≤ _), (by decide : 0 + 0 ≤ _)⟩)
  dsimp only [Pt.U, Pt.locs, Pt.cells, Pt.slots] at X2 l2 y2 z2 st2 hQ2
  subst l2 y2 z2
  obtain ⟨rfl, N2q, e2⟩ := hQ2
  have N2 := Fr.app N0 N2q
  refine go_of (B := (T2.setTop (mkF m 6 #[.val (.ref t), .val (.int (2 : Int32))] []))) (st2) ?_
  refine go_of (B := (T2.setTop (mkF m 7 #[.val (.ref t), .val (.int (2 : Int32))] [(.ref t)]))) (fun _ kk => XS.aloadN X2.here hx rfl (hb hby d13_6) rfl rfl kk) ?_
  refine go_of (B := (T2.setTop (mkF m 8 #[.val (.ref t), .val (.int (2 : Int32))] [(.int (2 : Int32)), (.ref t)]))) (fun _ kk => XS.iloadN X2.here hx rfl (hb hby d13_7) rfl kk) ?_
  obtain ⟨cl3, Ar3, q3, Sz3, Nn3, Hh3, G3⟩ := id (Va)
  refine go_of (B := (T2.setTop (mkF m 9 #[.val (.ref t), .val (.int (2 : Int32))] [(.int (own_b8 c2))]))) (fun _ kk => X2.baloadBytes hx (j := (2 : Int32)) (v := (.int (own_b8 c2))) (by rw [e2]; exact Ar3.1) (State.isArrayOf_alike hZ.alike Ar3.2.1) Ar3.2.2 (inb_of Sz3 ⟨by decide, by decide⟩) (Hh3.at (inb_of Sz3 ⟨by decide, by decide⟩) rfl) (g := (mkF m 8 #[.val (.ref t), .val (.int (2 : Int32))] [(.int (2 : Int32)), (.ref t)])) rfl rfl (hb hby d13_8) _ kk) ?_
  refine go_of (B := (T2.setTop (mkF m 12 #[.val (.ref t), .val (.int (2 : Int32))] [(.int (255 : Int32)), (.int (own_b8 c2))]))) (fun _ kk => XS.sipush X2.here hx rfl (hb hby d13_9) kk) ?_
  refine go_of (B := (T2.setTop (mkF m 13 #[.val (.ref t), .val (.int (2 : Int32))] [(.int ((own_b8 c2) &&& (255 : Int32)))]))) (fun _ kk => XS.iand X2.here hx rfl (hb hby d13_12) rfl kk) ?_
  refine go_of (B := (T2.setTop (mkF m 14 #[.val (.ref t), .val (.int (2 : Int32))] [(.int (((own_b8 c2) &&& (255 : Int32)).toUInt32.toUInt16.toUInt32.toInt32))]))) (fun _ kk => XS.i2c X2.here hx rfl (hb hby d13_13) rfl kk) ?_
  refine go_end X2 (v := some (.int (nar .char (((own_b8 c2) &&& (255 : Int32)).toUInt32.toUInt16.toUInt32.toInt32)))) (fun h => by rw [Bd.returns] at h; cases h) Bd.notSynchronized (by decide) (by decide) (Q := (Q_str_lch_3_2 Z t c0 c1 c2 k gF h0 n0)) ?_ (fun fs hr => retN X2 hx (t := .char) Bd.returns (by simp) (hb hby d13_14) hr)
  show (fun (v : Option Value) (h : Heap) (L : List Loc) => v = some (.int c2) ∧ Fr n0 L ∧ h = h0) (some (.int (nar .char (((own_b8 c2) &&& (255 : Int32)).toUInt32.toUInt16.toUInt32.toInt32)))) T2.heap _
  rw [e2]
  refine ⟨?_, N2, rfl⟩
  rw [own_b255 hci, own_narc hci]
def Q_str_ch_3_2 (Z : State) (a : Addr) (c0 : Int32) (c1 : Int32) (c2 : Int32) (gC : Int32) (gF : Value) (h0 : Heap) (n0 : Nat) (v : Option Value) (h : Heap) (L : List Loc) : Prop := v = some (.int c2) ∧ Fr n0 L ∧ h = h0
theorem ef_str_ch_3_2 (m : MethodId) (a : Addr)  : entryFrame m #[(.ref a), (.int (2 : Int32))] 2 = mkF m 0 #[.val (.ref a), .val (.int (2 : Int32))] [] := by first | (simp [entryFrame, mkF, argsToLocals, Value.category]; done) | rfl
set_option maxRecDepth 65536 in
set_option maxHeartbeats 40000000 in
theorem str_ch_3_2 (l : Launch) (Z : State) (a0 : Array Value) (hw : ∀ d ∈ tables_1, d.before a0 Z = true) (ws : List Jvm.Cond) (a : Addr) (c0 : Int32) (c1 : Int32) (c2 : Int32) (gC : Int32) (gF : Value) (h0 : Heap) (n0 : Nat) (Z0 : n0 ≤ h0.size) (O : Old Z n0 h0) (SC : Sta Z Z.heap "java/lang/String" "COMPACT_STRINGS" "Z" (.int gC)) (hgC : ¬ gC = (0 : Int32)) (S : Str Z h0 a 3 [c0, c1, c2]) (SF : Sta Z Z.heap "jdk/internal/util/Preconditions" "SIOOBE_FORMATTER" "Ljava/util/function/BiFunction;" gF) (rgF : gF.isRef = true) :
    MetFree l (⟨"java/lang/String", "charAt", "(I)C"⟩ : MethodName) (head1 (Jvm.Cond.code (⟨"java/lang/String", "charAt", "(I)C"⟩ : MethodName) jdk_42_method_56_code 2 (some .char) :: ws) ({ frames := 3, cells := 0, slots := 0, locals := 40 } : Room)) (fun aa' U1' => aa' = #[(.ref a), (.int (2 : Int32))] ∧ Z.Warmed39 U1'.vm ∧ U1'.heap = h0) (fun _ _ _ _ _ => True) (fun _ U1' oo' U2' => ∃ vv' LL', oo' = .returned vv' ∧ (Q_str_ch_3_2 Z a c0 c1 c2 gC gF h0 n0) vv' U2'.heap LL' ∧ FrameEnd U1' oo' U2' LL' ({ frames := 3, cells := 0, slots := 0, locals := 40 } : Room).cells ({ frames := 3, cells := 0, slots := 0, locals := 40 } : Room).slots) := by
  refine MetFree.of_bodySF (plainFor_of_name pn_java_lang_String) hisR ?_
  intro p e s m args below meth c s₁ Bd hml0 hP hK
  obtain ⟨rfl, hZ, hh⟩ := hP
  have hx := Bd.exec
  have hby := Bd.bytes
  have hml : c.maxLocals = 2 := hml0
  have hown : s.vm.findClass "java/lang/String" = some m.cls := findClass_of_methodNamed Bd.named
  have hnm := (name_of_methodNamed Bd.named Bd.method).1
  have X0 : Stand p l e ({ frames := 3, cells := 0, slots := 0, locals := 40 } : Room) s m #[(.ref a), (.int (2 : Int32))] below meth c s₁ [] 0 0 := Stand.of_body Bd
  have e0 : s₁.heap = h0 := by rw [← hh, Bd.state]; rfl
  have N0 := Fr.nil n0
  obtain ⟨t, k, Ea, Fc, Fv, Va, hcs⟩ := S
  have lta := own_nlt (Ea.lt)
  have ltt := own_nlt (Va.lt)
  have hci : ¬ c2 < 0 ∧ ¬ (255 : Int32) < c2 := hcs c2 (List.mem_of_getElem? (i := 2) rfl)
  refine go_of (A := s₁.setTop (entryFrame m #[(.ref a), (.int (2 : Int32))] 2)) (B := s₁.setTop (mkF m 0 #[.val (.ref a), .val (.int (2 : Int32))] [])) (fun _ kk' => castTop (ef_str_ch_3_2 m a) kk') ?_
  refine go_of (B := (s₁.setTop (mkF m 1 #[.val (.ref a), .val (.int (2 : Int32))] [(.ref a)]))) (fun _ kk => XS.aloadN X0.here hx rfl (hb hby d11_0) rfl rfl kk) ?_
  obtain ⟨cq1, kq1, q1a, q1b, q1c⟩ := isOf hZ e0 Ea
  obtain ⟨_, _, ⟨T1, L1, k1, n1⟩, -, X1, ⟨Lc1, hQ1, l1, y1, z1⟩, st1⟩ := X0.virtualBack hx (y := (⟨"java/lang/String", "isLatin1", "()Z"⟩ : MethodName)) (z := (⟨"java/lang/String", "isLatin1", "()Z"⟩ : MethodName)) hown (mvT hZ (hw _ (List.mem_of_getElem? (i := 53) rfl))) (mvT hZ (hw _ (List.mem_of_getElem? (i := 54) rfl))) (notFace_of_selects (args := #[]) (mvT hZ (hw _ (List.mem_of_getElem? (i := 56) rfl)))) (mvT hZ (hw _ (List.mem_of_getElem? (i := 56) rfl))) (mvT hZ (hw _ (List.mem_of_getElem? (i := 55) rfl))) (by decide) (backOf (W := 0) (str_latin l Z a0 hw [] a gC h0 n0 Z0 O SC hgC Fc) hZ (hw _ (List.mem_of_getElem? (i := 57) rfl)) (hw _ (List.mem_of_getElem? (i := 3) rfl)) (by decide) (by decide)) q1a q1c (g := (mkF m 1 #[.val (.ref a), .val (.int (2 : Int32))] [(.ref a)])) rfl (by rw [hml]; rfl) (Steps.refl _) (argsL := []) (rest := []) (lenOf pd___Z rfl) rfl (by show 2 * 0 + _ ≤ _; exact Nat.le_of_eq rfl) (hb hby d11_1) (fun _ _ => ⟨rfl, e0, (by decide : 0 + 0 ≤ _), (by decide : 0 + 0 ≤ _)⟩)
  dsimp only [Pt.U, Pt.locs, Pt.cells, Pt.slots] at X1 l1 y1 z1 st1 hQ1
  subst l1 y1 z1
  obtain ⟨rfl, N1q, e1⟩ := hQ1
  have N1 := Fr.app N0 N1q
  refine go_tr (B := (T1.setTop (mkF m 4 #[.val (.ref a), .val (.int (2 : Int32))] [(.int (1 : Int32))]))) (st1) ?_
  refine go_of (B := (T1.setTop (mkF m 7 #[.val (.ref a), .val (.int (2 : Int32))] []))) (fun _ kk => XS.ifNo X1.here hx rfl (hb hby d11_4) rfl ((if0 _ _).trans (feq (by decide : ¬ ((1 : Int32) = (0 : Int32)))).1) kk) ?_
  refine go_of (B := (T1.setTop (mkF m 8 #[.val (.ref a), .val (.int (2 : Int32))] [(.ref a)]))) (fun _ kk => XS.aloadN X1.here hx rfl (hb hby d11_7) rfl rfl kk) ?_
  obtain ⟨T2, X2, e2, st2⟩ := getF X1 hx hZ hown (host := "") (Or.inl (hw _ (List.mem_of_getElem? (i := 28) rfl))) Via.refl e1 Fv (g := (mkF m 8 #[.val (.ref a), .val (.int (2 : Int32))] [(.ref a)])) rfl rfl (hb hby d11_8)
  refine go_of (B := (T2.setTop (mkF m 11 #[.val (.ref a), .val (.int (2 : Int32))] [(.ref t)]))) (st2) ?_
  refine go_of (B := (T2.setTop (mkF m 12 #[.val (.ref a), .val (.int (2 : Int32))] [(.int (2 : Int32)), (.ref t)]))) (fun _ kk => XS.iloadN X2.here hx rfl (hb hby d11_11) rfl kk) ?_
  obtain ⟨_, _, ⟨T3, L3, k3, n3⟩, -, X3, ⟨Lc3, hQ3, l3, y3, z3⟩, st3⟩ := Jvm.LawKit.callS X2 hx (y := (⟨"java/lang/StringLatin1", "charAt", "([BI)C"⟩ : MethodName)) hown (mvT hZ (hw _ (List.mem_of_getElem? (i := 58) rfl))) (mvT hZ (hw _ (List.mem_of_getElem? (i := 59) rfl))) (mvT hZ (hw _ (List.mem_of_getElem? (i := 60) rfl))) (mvT hZ (hw _ (List.mem_of_getElem? (i := 61) rfl))) (by decide) (backOf (W := 0) (str_lch_3_2 l Z a0 hw [] t c0 c1 c2 k gF h0 n0 Z0 O SF rgF Va hci) hZ (hw _ (List.mem_of_getElem? (i := 61) rfl)) (hw _ (List.mem_of_getElem? (i := 60) rfl)) (by decide) (by decide)) (g := (mkF m 12 #[.val (.ref a), .val (.int (2 : Int32))] [(.int (2 : Int32)), (.ref t)])) rfl (by rw [hml]; rfl) (argsL := [(.ref t), (.int (2 : Int32))]) (rest := []) (lenOf pd___BI_C rfl) rfl (by show 2 * 0 + _ ≤ _; exact Nat.le_of_eq rfl) (hb hby d11_12) (fun _ _ => ⟨rfl, e2, (by decide : 0 + 0 ≤ _), (by decide : 0 + 0 ≤ _)⟩)
  dsimp only [Pt.U, Pt.locs, Pt.cells, Pt.slots] at X3 l3 y3 z3 st3 hQ3
  subst l3 y3 z3
  obtain ⟨rfl, N3q, e3⟩ := hQ3
  have N3 := Fr.app N1 N3q
  refine go_of (B := (T3.setTop (mkF m 15 #[.val (.ref a), .val (.int (2 : Int32))] [(.int c2)]))) (st3) ?_
  refine go_end X3 (v := some (.int (nar .char c2))) (fun h => by rw [Bd.returns] at h; cases h) Bd.notSynchronized (by decide) (by decide) (Q := (Q_str_ch_3_2 Z a c0 c1 c2 gC gF h0 n0)) ?_ (fun fs hr => retN X3 hx (t := .char) Bd.returns (by simp) (hb hby d11_15) hr)
  show (fun (v : Option Value) (h : Heap) (L : List Loc) => v = some (.int c2) ∧ Fr n0 L ∧ h = h0) (some (.int (nar .char c2))) T3.heap _
  rw [e3]
  refine ⟨?_, N3, rfl⟩
  rw [own_narc hci]
theorem own_127 {c : Int32} (h : ¬ c < 0 ∧ ¬ (127 : Int32) < c) : ¬ c < 0 ∧ ¬ (255 : Int32) < c := ⟨h.1, fun q => h.2 (by rw [Int32.lt_iff_toInt_lt] at q ⊢; have e1 : (127 : Int32).toInt = 127 := rfl; have e2 : (255 : Int32).toInt = 255 := rfl; omega)⟩
theorem own_idx {c : Int32} (h : ¬ c < 0 ∧ ¬ (127 : Int32) < c) : c.toInt = (c.toNatClampNeg : Int) ∧ c.toNatClampNeg < 128 := by
  have h1 := h.1; have h2 := h.2
  rw [Int32.lt_iff_toInt_lt] at h1 h2
  have e1 : (127 : Int32).toInt = 127 := rfl; have e0 : (0 : Int32).toInt = 0 := rfl
  have e : c.toNatClampNeg = c.toInt.toNat := rfl
  rw [e]; omega
def own_tab (c0 c1 c2 : Int32) (i : Nat) : Int32 := if i = c2.toNatClampNeg then 2 else if i = c1.toNatClampNeg then 1 else if i = c0.toNatClampNeg then 0 else -1
theorem d7_0 : decode prog_15_method_4_code 0 = .ok (.sipush 128, 3) := by decide +kernel
theorem d7_3 : decode prog_15_method_4_code 3 = .ok (.newarray .byte, 2) := by decide +kernel
theorem d7_5 : decode prog_15_method_4_code 5 = .ok (.astore_n 1, 1) := by decide +kernel
theorem d7_6 : decode prog_15_method_4_code 6 = .ok (.aload_n 1, 1) := by decide +kernel
theorem d7_7 : decode prog_15_method_4_code 7 = .ok (.iconst (-1), 1) := by decide +kernel
theorem d7_8 : decode prog_15_method_4_code 8 = .ok (.invokestatic 33, 3) := by decide +kernel
theorem pd___BB_V : parseMethodDescriptor "([BB)V" = some ⟨[(.array .byte), .byte], none⟩ := by decide +kernel
theorem d7_11 : decode prog_15_method_4_code 11 = .ok (.iconst 0, 1) := by decide +kernel
theorem d7_12 : decode prog_15_method_4_code 12 = .ok (.istore_n 2, 1) := by decide +kernel
theorem d7_13 : decode prog_15_method_4_code 13 = .ok (.iload_n 2, 1) := by decide +kernel
theorem d7_14 : decode prog_15_method_4_code 14 = .ok (.aload_n 0, 1) := by decide +kernel
theorem d7_15 : decode prog_15_method_4_code 15 = .ok (.invokevirtual 7, 3) := by decide +kernel
theorem pd___I : parseMethodDescriptor "()I" = some ⟨[], some .int⟩ := by decide +kernel
theorem d7_18 : decode prog_15_method_4_code 18 = .ok (.if_icmp .ge 18, 3) := by decide +kernel
theorem d7_21 : decode prog_15_method_4_code 21 = .ok (.aload_n 1, 1) := by decide +kernel
theorem d7_22 : decode prog_15_method_4_code 22 = .ok (.aload_n 0, 1) := by decide +kernel
theorem d7_23 : decode prog_15_method_4_code 23 = .ok (.iload_n 2, 1) := by decide +kernel
theorem d7_24 : decode prog_15_method_4_code 24 = .ok (.invokevirtual 13, 3) := by decide +kernel
theorem pd__I_C : parseMethodDescriptor "(I)C" = some ⟨[.int], some .char⟩ := by decide +kernel
theorem d7_27 : decode prog_15_method_4_code 27 = .ok (.iload_n 2, 1) := by decide +kernel
theorem d7_28 : decode prog_15_method_4_code 28 = .ok (.i2b, 1) := by decide +kernel
theorem d7_29 : decode prog_15_method_4_code 29 = .ok (.bastore, 1) := by decide +kernel
theorem d7_30 : decode prog_15_method_4_code 30 = .ok (.iinc 2 1, 3) := by decide +kernel
theorem d7_33 : decode prog_15_method_4_code 33 = .ok (.goto (-20), 3) := by decide +kernel
theorem d7_36 : decode prog_15_method_4_code 36 = .ok (.aload_n 1, 1) := by decide +kernel
theorem d7_37 : decode prog_15_method_4_code 37 = .ok (.areturn, 1) := by decide +kernel
def Q_rm7 (Z : State) (a : Addr) (c0 : Int32) (c1 : Int32) (c2 : Int32) (gC : Int32) (gF : Value) (h0 : Heap) (n0 : Nat) (v : Option Value) (h : Heap) (L : List Loc) : Prop := ∃ t : Addr, v = some (.ref t) ∧ Fr n0 L ∧ Keep h0 h [] ∧ Tab Z h t 128 (own_tab c0 c1 c2)
theorem pn_com_example_libpubid_libpubid_id_Digits : plainName "com/example/libpubid/libpubid/id/Digits" = true := by first | (simp [plainName, overriddenIn]; done) | decide +kernel
theorem ef_rm7 (m : MethodId) (a : Addr)  : entryFrame m #[(.ref a)] 3 = mkF m 0 #[.val (.ref a), .unset, .unset] [] := by first | (simp [entryFrame, mkF, argsToLocals, Value.category]; done) | rfl
set_option maxRecDepth 65536 in
set_option maxHeartbeats 40000000 in
theorem rm7 (l : Launch) (Z : State) (a0 : Array Value) (hw : ∀ d ∈ tables_1, d.before a0 Z = true) (ws : List Jvm.Cond) (a : Addr) (c0 : Int32) (c1 : Int32) (c2 : Int32) (gC : Int32) (gF : Value) (h0 : Heap) (n0 : Nat) (Z0 : n0 ≤ h0.size) (O : Old Z n0 h0) (SC : Sta Z Z.heap "java/lang/String" "COMPACT_STRINGS" "Z" (.int gC)) (hgC : ¬ gC = (0 : Int32)) (S : Str Z h0 a 3 [c0, c1, c2]) (SF : Sta Z Z.heap "jdk/internal/util/Preconditions" "SIOOBE_FORMATTER" "Ljava/util/function/BiFunction;" gF) (rgF : gF.isRef = true) (hc0 : ¬ c0 < 0 ∧ ¬ (127 : Int32) < c0) (hc1 : ¬ c1 < 0 ∧ ¬ (127 : Int32) < c1) (hc2 : ¬ c2 < 0 ∧ ¬ (127 : Int32) < c2) :
    MetFree l (⟨"com/example/libpubid/libpubid/id/Digits", "values", "(Ljava/lang/String;)[B"⟩ : MethodName) (head1 (Jvm.Cond.code (⟨"com/example/libpubid/libpubid/id/Digits", "values", "(Ljava/lang/String;)[B"⟩ : MethodName) prog_15_method_4_code 3 (some (.array .byte)) :: ws) ({ frames := 4, cells := 1, slots := 128, locals := 54 } : Room)) (fun aa' U1' => aa' = #[(.ref a)] ∧ Z.Warmed39 U1'.vm ∧ U1'.heap = h0) (fun _ _ _ _ _ => True) (fun _ U1' oo' U2' => ∃ vv' LL', oo' = .returned vv' ∧ (Q_rm7 Z a c0 c1 c2 gC gF h0 n0) vv' U2'.heap LL' ∧ FrameEnd U1' oo' U2' LL' ({ frames := 4, cells := 1, slots := 128, locals := 54 } : Room).cells ({ frames := 4, cells := 1, slots := 128, locals := 54 } : Room).slots) := by
  refine MetFree.of_bodySF (plainFor_of_name pn_com_example_libpubid_libpubid_id_Digits) hisR ?_
  intro p e s m args below meth c s₁ Bd hml0 hP hK
  obtain ⟨rfl, hZ, hh⟩ := hP
  have hx := Bd.exec
  have hby := Bd.bytes
  have hml : c.maxLocals = 3 := hml0
  have hown : s.vm.findClass "com/example/libpubid/libpubid/id/Digits" = some m.cls := findClass_of_methodNamed Bd.named
  have hnm := (name_of_methodNamed Bd.named Bd.method).1
  have X0 : Stand p l e ({ frames := 4, cells := 1, slots := 128, locals := 54 } : Room) s m #[(.ref a)] below meth c s₁ [] 0 0 := Stand.of_body Bd
  have e0 : s₁.heap = h0 := by rw [← hh, Bd.state]; rfl
  have N0 := Fr.nil n0
  have lta := own_nlt (S.lt)
  refine go_of (A := s₁.setTop (entryFrame m #[(.ref a)] 3)) (B := s₁.setTop (mkF m 0 #[.val (.ref a), .unset, .unset] [])) (fun _ kk' => castTop (ef_rm7 m a) kk') ?_
  refine go_of (B := (s₁.setTop (mkF m 3 #[.val (.ref a), .unset, .unset] [(.int (128 : Int32))]))) (fun _ kk => XS.sipush X0.here hx rfl (hb hby d7_0) kk) ?_
  obtain ⟨T1, h1, k1, X1, e1, E1, A1, st1⟩ := newP X0 hx hZ (hw _ (List.mem_of_getElem? (i := 19) rfl)) e0 (g := (mkF m 3 #[.val (.ref a), .unset, .unset] [(.int (128 : Int32))])) rfl (hb hby d7_3) rfl (by decide) (cap := 128) (by decide) (by decide) (by decide) (by decide)
  obtain ⟨b1, g1⟩ : ∃ z, z = h0.size := ⟨_, rfl⟩
  rw [← g1] at A1 st1
  have hi1 := own_nlt A1.lt
  have sz1 := E1.1
  have V1 := Arv.new A1 (by decide)
  refine go_of (B := (T1.setTop (mkF m 5 #[.val (.ref a), .unset, .unset] [(.ref b1)]))) (st1) ?_
  refine go_of (B := (T1.setTop (mkF m 6 #[.val (.ref a), .val (.ref b1), .unset] []))) (fun _ kk => XS.astoreN X1.here hx rfl (hb hby d7_5) rfl rfl rfl kk) ?_
  refine go_of (B := (T1.setTop (mkF m 7 #[.val (.ref a), .val (.ref b1), .unset] [(.ref b1)]))) (fun _ kk => XS.aloadN X1.here hx rfl (hb hby d7_6) rfl rfl kk) ?_
  refine go_of (B := (T1.setTop (mkF m 8 #[.val (.ref a), .val (.ref b1), .unset] [(.int (-1 : Int32)), (.ref b1)]))) (fun _ kk => XS.iconst X1.here hx rfl (hb hby d7_7) kk) ?_
  obtain ⟨_, _, ⟨T2, L2, k2, n2⟩, -, X2, ⟨Lc2, hQ2, l2, y2, z2⟩, st2⟩ := Jvm.LawKit.callS X1 hx (y := (⟨"java/util/Arrays", "fill", "([BB)V"⟩ : MethodName)) hown (mvT hZ (hw _ (List.mem_of_getElem? (i := 34) rfl))) (mvT hZ (hw _ (List.mem_of_getElem? (i := 35) rfl))) (mvT hZ (hw _ (List.mem_of_getElem? (i := 36) rfl))) (mvT hZ (hw _ (List.mem_of_getElem? (i := 37) rfl))) (by decide) (backOf (W := 0) (rm8 l Z a0 hw [] b1 h1 n0 (by first | omega | exact own_ne (by omega) | exact own_le (by omega)) (by first | omega | exact own_ne (by omega) | exact own_le (by omega)) ((Tab.new A1).cong (fun k hk => rfl : ∀ k, k < 128 → (0 : Int32) = own_fill 0 k))) hZ (hw _ (List.mem_of_getElem? (i := 37) rfl)) (hw _ (List.mem_of_getElem? (i := 36) rfl)) (by decide) (by decide)) (g := (mkF m 8 #[.val (.ref a), .val (.ref b1), .unset] [(.int (-1 : Int32)), (.ref b1)])) rfl (by rw [hml]; rfl) (argsL := [(.ref b1), (.int (-1 : Int32))]) (rest := []) (lenOf pd___BB_V rfl) rfl (by show 2 * 0 + _ ≤ _; exact Nat.le_of_eq rfl) (hb hby d7_8) (fun _ _ => ⟨rfl, e1, (by decide : 1 + 0 ≤ _), (by decide : 128 + 0 ≤ _)⟩)
  dsimp only [Pt.U, Pt.locs, Pt.cells, Pt.slots] at X2 l2 y2 z2 st2 hQ2
  subst l2 y2 z2
  obtain ⟨rfl, N2q, K2, F2⟩ := hQ2
  have N2 := Fr.app N0 N2q
  have sz2 := K2.1
  refine go_of (B := (T2.setTop (mkF m 11 #[.val (.ref a), .val (.ref b1), .unset] []))) (st2) ?_
  refine go_of (B := (T2.setTop (mkF m 12 #[.val (.ref a), .val (.ref b1), .unset] [(.int (0 : Int32))]))) (fun _ kk => XS.iconst X2.here hx rfl (hb hby d7_11) kk) ?_
  refine go_of (B := (T2.setTop (mkF m 13 #[.val (.ref a), .val (.ref b1), .val (.int (0 : Int32))] []))) (fun _ kk => XS.istoreN X2.here hx rfl (hb hby d7_12) rfl rfl kk) ?_
  refine go_of (B := (T2.setTop (mkF m 14 #[.val (.ref a), .val (.ref b1), .val (.int (0 : Int32))] [(.int (0 : Int32))]))) (fun _ kk => XS.iloadN X2.here hx rfl (hb hby d7_13) rfl kk) ?_
  refine go_of (B := (T2.setTop (mkF m 15 #[.val (.ref a), .val (.ref b1), .val (.int (0 : Int32))] [(.ref a), (.int (0 : Int32))]))) (fun _ kk => XS.aloadN X2.here hx rfl (hb hby d7_14) rfl rfl kk) ?_
  have cf_3 := S.ext (own_kx (((Keep.refl h0 []).ext E1).trans K2 (allS (Or.inr (by first | omega | exact own_ne (by omega) | exact own_le (by omega))) all0)))
  have cf_4 := ((O.ext E1).keep K2 (allS (by first | omega | exact own_ne (by omega) | exact own_le (by omega)) all0))
  obtain ⟨cq5, kq5, q5a, q5b, q5c⟩ := isOf hZ rfl cf_3.exa
  obtain ⟨_, _, ⟨T5, L5, k5, n5⟩, -, X5, ⟨Lc5, hQ5, l5, y5, z5⟩, st5⟩ := X2.virtualBack hx (y := (⟨"java/lang/String", "length", "()I"⟩ : MethodName)) (z := (⟨"java/lang/String", "length", "()I"⟩ : MethodName)) hown (mvT hZ (hw _ (List.mem_of_getElem? (i := 38) rfl))) (mvT hZ (hw _ (List.mem_of_getElem? (i := 39) rfl))) (notFace_of_selects (args := #[]) (mvT hZ (hw _ (List.mem_of_getElem? (i := 41) rfl)))) (mvT hZ (hw _ (List.mem_of_getElem? (i := 41) rfl))) (mvT hZ (hw _ (List.mem_of_getElem? (i := 40) rfl))) (by decide) (backOf (W := 1) (str_len_3 l Z a0 hw [] a c0 c1 c2 gC T2.heap n0 (by first | omega | exact own_ne (by omega) | exact own_le (by omega)) cf_4 SC hgC cf_3) hZ (hw _ (List.mem_of_getElem? (i := 42) rfl)) (hw _ (List.mem_of_getElem? (i := 3) rfl)) (by decide) (by decide)) q5a q5c (g := (mkF m 15 #[.val (.ref a), .val (.ref b1), .val (.int (0 : Int32))] [(.ref a), (.int (0 : Int32))])) rfl (by rw [hml]; rfl) (Steps.refl _) (argsL := []) (rest := [(.int (0 : Int32))]) (lenOf pd___I rfl) rfl (by show 2 * 0 + _ ≤ _; exact Nat.le_of_eq rfl) (hb hby d7_15) (fun _ _ => ⟨rfl, rfl, (by decide : 1 + 0 ≤ _), (by decide : 128 + 0 ≤ _)⟩)
  dsimp only [Pt.U, Pt.locs, Pt.cells, Pt.slots] at X5 l5 y5 z5 st5 hQ5
  subst l5 y5 z5
  obtain ⟨rfl, N5q, e5⟩ := hQ5
  have N5 := Fr.app N2 N5q
  refine go_tr (B := (T5.setTop (mkF m 18 #[.val (.ref a), .val (.ref b1), .val (.int (0 : Int32))] [(.int (3 : Int32)), (.int (0 : Int32))]))) (st5) ?_
  refine go_of (B := (T5.setTop (mkF m 21 #[.val (.ref a), .val (.ref b1), .val (.int (0 : Int32))] []))) (fun _ kk => XS.icmpNo X5.here hx rfl (hb hby d7_18) rfl (tlt (by decide : (0 : Int32) < (3 : Int32))).2.1 kk) ?_
  refine go_of (B := (T5.setTop (mkF m 22 #[.val (.ref a), .val (.ref b1), .val (.int (0 : Int32))] [(.ref b1)]))) (fun _ kk => XS.aloadN X5.here hx rfl (hb hby d7_21) rfl rfl kk) ?_
  refine go_of (B := (T5.setTop (mkF m 23 #[.val (.ref a), .val (.ref b1), .val (.int (0 : Int32))] [(.ref a), (.ref b1)]))) (fun _ kk => XS.aloadN X5.here hx rfl (hb hby d7_22) rfl rfl kk) ?_
  refine go_of (B := (T5.setTop (mkF m 24 #[.val (.ref a), .val (.ref b1), .val (.int (0 : Int32))] [(.int (0 : Int32)), (.ref a), (.ref b1)]))) (fun _ kk => XS.iloadN X5.here hx rfl (hb hby d7_23) rfl kk) ?_
  obtain ⟨cq6, kq6, q6a, q6b, q6c⟩ := isOf hZ e5 cf_3.exa
  obtain ⟨_, _, ⟨T6, L6, k6, n6⟩, -, X6, ⟨Lc6, hQ6, l6, y6, z6⟩, st6⟩ := X5.virtualBack hx (y := (⟨"java/lang/String", "charAt", "(I)C"⟩ : MethodName)) (z := (⟨"java/lang/String", "charAt", "(I)C"⟩ : MethodName)) hown (mvT hZ (hw _ (List.mem_of_getElem? (i := 48) rfl))) (mvT hZ (hw _ (List.mem_of_getElem? (i := 49) rfl))) (notFace_of_selects (args := #[]) (mvT hZ (hw _ (List.mem_of_getElem? (i := 51) rfl)))) (mvT hZ (hw _ (List.mem_of_getElem? (i := 51) rfl))) (mvT hZ (hw _ (List.mem_of_getElem? (i := 50) rfl))) (by decide) (backOf (W := 1) (str_ch_3_0 l Z a0 hw [] a c0 c1 c2 gC gF T2.heap n0 (by first | omega | exact own_ne (by omega) | exact own_le (by omega)) cf_4 SC hgC cf_3 SF rgF) hZ (hw _ (List.mem_of_getElem? (i := 52) rfl)) (hw _ (List.mem_of_getElem? (i := 3) rfl)) (by decide) (by decide)) q6a q6c (g := (mkF m 24 #[.val (.ref a), .val (.ref b1), .val (.int (0 : Int32))] [(.int (0 : Int32)), (.ref a), (.ref b1)])) rfl (by rw [hml]; rfl) (Steps.refl _) (argsL := [(.int (0 : Int32))]) (rest := [(.ref b1)]) (lenOf pd__I_C rfl) rfl (by show 2 * 0 + _ ≤ _; exact Nat.le_of_eq rfl) (hb hby d7_24) (fun _ _ => ⟨rfl, e5, (by decide : 1 + 0 ≤ _), (by decide : 128 + 0 ≤ _)⟩)
  dsimp only [Pt.U, Pt.locs, Pt.cells, Pt.slots] at X6 l6 y6 z6 st6 hQ6
  subst l6 y6 z6
  obtain ⟨rfl, N6q, e6⟩ := hQ6
  have N6 := Fr.app N5 N6q
  refine go_tr (B := (T6.setTop (mkF m 27 #[.val (.ref a), .val (.ref b1), .val (.int (0 : Int32))] [(.int c0), (.ref b1)]))) (st6) ?_
  refine go_of (B := (T6.setTop (mkF m 28 #[.val (.ref a), .val (.ref b1), .val (.int (0 : Int32))] [(.int (0 : Int32)), (.int c0), (.ref b1)]))) (fun _ kk => XS.iloadN X6.here hx rfl (hb hby d7_27) rfl kk) ?_
  refine go_of (B := (T6.setTop (mkF m 29 #[.val (.ref a), .val (.ref b1), .val (.int (0 : Int32))] [(.int (0 : Int32)), (.int c0), (.ref b1)]))) (fun _ kk => XS.i2b X6.here hx rfl (hb hby d7_28) rfl kk) ?_
  obtain ⟨cl7, Ar7, Sz7, -⟩ := id F2
  obtain ⟨T7, h7, X7, e7, W7, st7⟩ := stB X6 hx hZ e6 Ar7 (j := c0) (own_inb (own_idx hc0).1 (by rw [Sz7]; exact (own_idx hc0).2)) (g := (mkF m 29 #[.val (.ref a), .val (.ref b1), .val (.int (0 : Int32))] [(.int (0 : Int32)), (.int c0), (.ref b1)])) rfl rfl (hb hby d7_29)
  have sz7 := W7.size
  have N7 := Fr.snoc X7 N6 (own_le (by omega) : n0 ≤ b1)
  have F7 := F2.wr W7 (own_idx hc0).2
  refine go_of (B := (T7.setTop (mkF m 30 #[.val (.ref a), .val (.ref b1), .val (.int (0 : Int32))] []))) (st7) ?_
  refine go_of (B := (T7.setTop (mkF m 33 #[.val (.ref a), .val (.ref b1), .val (.int (1 : Int32))] []))) (fun _ kk => XS.iinc X7.here hx rfl (hb hby d7_30) rfl rfl kk) ?_
  refine go_of (B := (T7.setTop (mkF m 13 #[.val (.ref a), .val (.ref b1), .val (.int (1 : Int32))] []))) (fun _ kk => XS.goto X7.here hx rfl (pc0 := 33) (pc' := 13) rfl (hb hby d7_33) (by decide) (by decide) kk) ?_
  refine go_of (B := (T7.setTop (mkF m 14 #[.val (.ref a), .val (.ref b1), .val (.int (1 : Int32))] [(.int (1 : Int32))]))) (fun _ kk => XS.iloadN X7.here hx rfl (hb hby d7_13) rfl kk) ?_
  refine go_of (B := (T7.setTop (mkF m 15 #[.val (.ref a), .val (.ref b1), .val (.int (1 : Int32))] [(.ref a), (.int (1 : Int32))]))) (fun _ kk => XS.aloadN X7.here hx rfl (hb hby d7_14) rfl rfl kk) ?_
  have cf_8 := S.ext (own_kx ((((Keep.refl h0 []).ext E1).trans K2 (allS (Or.inr (by first | omega | exact own_ne (by omega) | exact own_le (by omega))) all0)).wr W7 (Or.inr (by first | omega | exact own_ne (by omega) | exact own_le (by omega)))))
  have cf_9 := (cf_4.wr W7 (by first | omega | exact own_ne (by omega) | exact own_le (by omega)))
  obtain ⟨cq10, kq10, q10a, q10b, q10c⟩ := isOf hZ e7 cf_8.exa
  obtain ⟨_, _, ⟨T10, L10, k10, n10⟩, -, X10, ⟨Lc10, hQ10, l10, y10, z10⟩, st10⟩ := X7.virtualBack hx (y := (⟨"java/lang/String", "length", "()I"⟩ : MethodName)) (z := (⟨"java/lang/String", "length", "()I"⟩ : MethodName)) hown (mvT hZ (hw _ (List.mem_of_getElem? (i := 38) rfl))) (mvT hZ (hw _ (List.mem_of_getElem? (i := 39) rfl))) (notFace_of_selects (args := #[]) (mvT hZ (hw _ (List.mem_of_getElem? (i := 41) rfl)))) (mvT hZ (hw _ (List.mem_of_getElem? (i := 41) rfl))) (mvT hZ (hw _ (List.mem_of_getElem? (i := 40) rfl))) (by decide) (backOf (W := 1) (str_len_3 l Z a0 hw [] a c0 c1 c2 gC h7 n0 (by first | omega | exact own_ne (by omega) | exact own_le (by omega)) cf_9 SC hgC cf_8) hZ (hw _ (List.mem_of_getElem? (i := 42) rfl)) (hw _ (List.mem_of_getElem? (i := 3) rfl)) (by decide) (by decide)) q10a q10c (g := (mkF m 15 #[.val (.ref a), .val (.ref b1), .val (.int (1 : Int32))] [(.ref a), (.int (1 : Int32))])) rfl (by rw [hml]; rfl) (Steps.refl _) (argsL := []) (rest := [(.int (1 : Int32))]) (lenOf pd___I rfl) rfl (by show 2 * 0 + _ ≤ _; exact Nat.le_of_eq rfl) (hb hby d7_15) (fun _ _ => ⟨rfl, e7, (by decide : 1 + 0 ≤ _), (by decide : 128 + 0 ≤ _)⟩)
  dsimp only [Pt.U, Pt.locs, Pt.cells, Pt.slots] at X10 l10 y10 z10 st10 hQ10
  subst l10 y10 z10
  obtain ⟨rfl, N10q, e10⟩ := hQ10
  have N10 := Fr.app N7 N10q
  refine go_tr (B := (T10.setTop (mkF m 18 #[.val (.ref a), .val (.ref b1), .val (.int (1 : Int32))] [(.int (3 : Int32)), (.int (1 : Int32))]))) (st10) ?_
  refine go_of (B := (T10.setTop (mkF m 21 #[.val (.ref a), .val (.ref b1), .val (.int (1 : Int32))] []))) (fun _ kk => XS.icmpNo X10.here hx rfl (hb hby d7_18) rfl (tlt (by decide : (1 : Int32) < (3 : Int32))).2.1 kk) ?_
  refine go_of (B := (T10.setTop (mkF m 22 #[.val (.ref a), .val (.ref b1), .val (.int (1 : Int32))] [(.ref b1)]))) (fun _ kk => XS.aloadN X10.here hx rfl (hb hby d7_21) rfl rfl kk) ?_
  refine go_of (B := (T10.setTop (mkF m 23 #[.val (.ref a), .val (.ref b1), .val (.int (1 : Int32))] [(.ref a), (.ref b1)]))) (fun _ kk => XS.aloadN X10.here hx rfl (hb hby d7_22) rfl rfl kk) ?_
  refine go_of (B := (T10.setTop (mkF m 24 #[.val (.ref a), .val (.ref b1), .val (.int (1 : Int32))] [(.int (1 : Int32)), (.ref a), (.ref b1)]))) (fun _ kk => XS.iloadN X10.here hx rfl (hb hby d7_23) rfl kk) ?_
  obtain ⟨cq11, kq11, q11a, q11b, q11c⟩ := isOf hZ e10 cf_8.exa
  obtain ⟨_, _, ⟨T11, L11, k11, n11⟩, -, X11, ⟨Lc11, hQ11, l11, y11, z11⟩, st11⟩ := X10.virtualBack hx (y := (⟨"java/lang/String", "charAt", "(I)C"⟩ : MethodName)) (z := (⟨"java/lang/String", "charAt", "(I)C"⟩ : MethodName)) hown (mvT hZ (hw _ (List.mem_of_getElem? (i := 48) rfl))) (mvT hZ (hw _ (List.mem_of_getElem? (i := 49) rfl))) (notFace_of_selects (args := #[]) (mvT hZ (hw _ (List.mem_of_getElem? (i := 51) rfl)))) (mvT hZ (hw _ (List.mem_of_getElem? (i := 51) rfl))) (mvT hZ (hw _ (List.mem_of_getElem? (i := 50) rfl))) (by decide) (backOf (W := 1) (str_ch_3_1 l Z a0 hw [] a c0 c1 c2 gC gF h7 n0 (by first | omega | exact own_ne (by omega) | exact own_le (by omega)) cf_9 SC hgC cf_8 SF rgF) hZ (hw _ (List.mem_of_getElem? (i := 52) rfl)) (hw _ (List.mem_of_getElem? (i := 3) rfl)) (by decide) (by decide)) q11a q11c (g := (mkF m 24 #[.val (.ref a), .val (.ref b1), .val (.int (1 : Int32))] [(.int (1 : Int32)), (.ref a), (.ref b1)])) rfl (by rw [hml]; rfl) (Steps.refl _) (argsL := [(.int (1 : Int32))]) (rest := [(.ref b1)]) (lenOf pd__I_C rfl) rfl (by show 2 * 0 + _ ≤ _; exact Nat.le_of_eq rfl) (hb hby d7_24) (fun _ _ => ⟨rfl, e10, (by decide : 1 + 0 ≤ _), (by decide : 128 + 0 ≤ _)⟩)
  dsimp only [Pt.U, Pt.locs, Pt.cells, Pt.slots] at X11 l11 y11 z11 st11 hQ11
  subst l11 y11 z11
  obtain ⟨rfl, N11q, e11⟩ := hQ11
  have N11 := Fr.app N10 N11q
  refine go_tr (B := (T11.setTop (mkF m 27 #[.val (.ref a), .val (.ref b1), .val (.int (1 : Int32))] [(.int c1), (.ref b1)]))) (st11) ?_
  refine go_of (B := (T11.setTop (mkF m 28 #[.val (.ref a), .val (.ref b1), .val (.int (1 : Int32))] [(.int (1 : Int32)), (.int c1), (.ref b1)]))) (fun _ kk => XS.iloadN X11.here hx rfl (hb hby d7_27) rfl kk) ?_
  refine go_of (B := (T11.setTop (mkF m 29 #[.val (.ref a), .val (.ref b1), .val (.int (1 : Int32))] [(.int (1 : Int32)), (.int c1), (.ref b1)]))) (fun _ kk => XS.i2b X11.here hx rfl (hb hby d7_28) rfl kk) ?_
  obtain ⟨cl12, Ar12, Sz12, -⟩ := id F7
  obtain ⟨T12, h12, X12, e12, W12, st12⟩ := stB X11 hx hZ e11 Ar12 (j := c1) (own_inb (own_idx hc1).1 (by rw [Sz12]; exact (own_idx hc1).2)) (g := (mkF m 29 #[.val (.ref a), .val (.ref b1), .val (.int (1 : Int32))] [(.int (1 : Int32)), (.int c1), (.ref b1)])) rfl rfl (hb hby d7_29)
  have sz12 := W12.size
  have N12 := Fr.snoc X12 N11 (own_le (by omega) : n0 ≤ b1)
  have F12 := F7.wr W12 (own_idx hc1).2
  refine go_of (B := (T12.setTop (mkF m 30 #[.val (.ref a), .val (.ref b1), .val (.int (1 : Int32))] []))) (st12) ?_
  refine go_of (B := (T12.setTop (mkF m 33 #[.val (.ref a), .val (.ref b1), .val (.int (2 : Int32))] []))) (fun _ kk => XS.iinc X12.here hx rfl (hb hby d7_30) rfl rfl kk) ?_
  refine go_of (B := (T12.setTop (mkF m 13 #[.val (.ref a), .val (.ref b1), .val (.int (2 : Int32))] []))) (fun _ kk => XS.goto X12.here hx rfl (pc0 := 33) (pc' := 13) rfl (hb hby d7_33) (by decide) (by decide) kk) ?_
  refine go_of (B := (T12.setTop (mkF m 14 #[.val (.ref a), .val (.ref b1), .val (.int (2 : Int32))] [(.int (2 : Int32))]))) (fun _ kk => XS.iloadN X12.here hx rfl (hb hby d7_13) rfl kk) ?_
  refine go_of (B := (T12.setTop (mkF m 15 #[.val (.ref a), .val (.ref b1), .val (.int (2 : Int32))] [(.ref a), (.int (2 : Int32))]))) (fun _ kk => XS.aloadN X12.here hx rfl (hb hby d7_14) rfl rfl kk) ?_
  have cf_13 := S.ext (own_kx (((((Keep.refl h0 []).ext E1).trans K2 (allS (Or.inr (by first | omega | exact own_ne (by omega) | exact own_le (by omega))) all0)).wr W7 (Or.inr (by first | omega | exact own_ne (by omega) | exact own_le (by omega)))).wr W12 (Or.inr (by first | omega | exact own_ne (by omega) | exact own_le (by omega)))))
  have cf_14 := (cf_9.wr W12 (by first | omega | exact own_ne (by omega) | exact own_le (by omega)))
  obtain ⟨cq15, kq15, q15a, q15b, q15c⟩ := isOf hZ e12 cf_13.exa
  obtain ⟨_, _, ⟨T15, L15, k15, n15⟩, -, X15, ⟨Lc15, hQ15, l15, y15, z15⟩, st15⟩ := X12.virtualBack hx (y := (⟨"java/lang/String", "length", "()I"⟩ : MethodName)) (z := (⟨"java/lang/String", "length", "()I"⟩ : MethodName)) hown (mvT hZ (hw _ (List.mem_of_getElem? (i := 38) rfl))) (mvT hZ (hw _ (List.mem_of_getElem? (i := 39) rfl))) (notFace_of_selects (args := #[]) (mvT hZ (hw _ (List.mem_of_getElem? (i := 41) rfl)))) (mvT hZ (hw _ (List.mem_of_getElem? (i := 41) rfl))) (mvT hZ (hw _ (List.mem_of_getElem? (i := 40) rfl))) (by decide) (backOf (W := 1) (str_len_3 l Z a0 hw [] a c0 c1 c2 gC h12 n0 (by first | omega | exact own_ne (by omega) | exact own_le (by omega)) cf_14 SC hgC cf_13) hZ (hw _ (List.mem_of_getElem? (i := 42) rfl)) (hw _ (List.mem_of_getElem? (i := 3) rfl)) (by decide) (by decide)) q15a q15c (g := (mkF m 15 #[.val (.ref a), .val (.ref b1), .val (.int (2 : Int32))] [(.ref a), (.int (2 : Int32))])) rfl (by rw [hml]; rfl) (Steps.refl _) (argsL := []) (rest := [(.int (2 : Int32))]) (lenOf pd___I rfl) rfl (by show 2 * 0 + _ ≤ _; exact Nat.le_of_eq rfl) (hb hby d7_15) (fun _ _ => ⟨rfl, e12, (by decide : 1 + 0 ≤ _), (by decide : 128 + 0 ≤ _)⟩)
  dsimp only [Pt.U, Pt.locs, Pt.cells, Pt.slots] at X15 l15 y15 z15 st15 hQ15
  subst l15 y15 z15
  obtain ⟨rfl, N15q, e15⟩ := hQ15
  have N15 := Fr.app N12 N15q
  refine go_tr (B := (T15.setTop (mkF m 18 #[.val (.ref a), .val (.ref b1), .val (.int (2 : Int32))] [(.int (3 : Int32)), (.int (2 : Int32))]))) (st15) ?_
  refine go_of (B := (T15.setTop (mkF m 21 #[.val (.ref a), .val (.ref b1), .val (.int (2 : Int32))] []))) (fun _ kk => XS.icmpNo X15.here hx rfl (hb hby d7_18) rfl (tlt (by decide : (2 : Int32) < (3 : Int32))).2.1 kk) ?_
  refine go_of (B := (T15.setTop (mkF m 22 #[.val (.ref a), .val (.ref b1), .val (.int (2 : Int32))] [(.ref b1)]))) (fun _ kk => XS.aloadN X15.here hx rfl (hb hby d7_21) rfl rfl kk) ?_
  refine go_of (B := (T15.setTop (mkF m 23 #[.val (.ref a), .val (.ref b1), .val (.int (2 : Int32))] [(.ref a), (.ref b1)]))) (fun _ kk => XS.aloadN X15.here hx rfl (hb hby d7_22) rfl rfl kk) ?_
  refine go_of (B := (T15.setTop (mkF m 24 #[.val (.ref a), .val (.ref b1), .val (.int (2 : Int32))] [(.int (2 : Int32)), (.ref a), (.ref b1)]))) (fun _ kk => XS.iloadN X15.here hx rfl (hb hby d7_23) rfl kk) ?_
  obtain ⟨cq16, kq16, q16a, q16b, q16c⟩ := isOf hZ e15 cf_13.exa
  obtain ⟨_, _, ⟨T16, L16, k16, n16⟩, -, X16, ⟨Lc16, hQ16, l16, y16, z16⟩, st16⟩ := X15.virtualBack hx (y := (⟨"java/lang/String", "charAt", "(I)C"⟩ : MethodName)) (z := (⟨"java/lang/String", "charAt", "(I)C"⟩ : MethodName)) hown (mvT hZ (hw _ (List.mem_of_getElem? (i := 48) rfl))) (mvT hZ (hw _ (List.mem_of_getElem? (i := 49) rfl))) (notFace_of_selects (args := #[]) (mvT hZ (hw _ (List.mem_of_getElem? (i := 51) rfl)))) (mvT hZ (hw _ (List.mem_of_getElem? (i := 51) rfl))) (mvT hZ (hw _ (List.mem_of_getElem? (i := 50) rfl))) (by decide) (backOf (W := 1) (str_ch_3_2 l Z a0 hw [] a c0 c1 c2 gC gF h12 n0 (by first | omega | exact own_ne (by omega) | exact own_le (by omega)) cf_14 SC hgC cf_13 SF rgF) hZ (hw _ (List.mem_of_getElem? (i := 52) rfl)) (hw _ (List.mem_of_getElem? (i := 3) rfl)) (by decide) (by decide)) q16a q16c (g := (mkF m 24 #[.val (.ref a), .val (.ref b1), .val (.int (2 : Int32))] [(.int (2 : Int32)), (.ref a), (.ref b1)])) rfl (by rw [hml]; rfl) (Steps.refl _) (argsL := [(.int (2 : Int32))]) (rest := [(.ref b1)]) (lenOf pd__I_C rfl) rfl (by show 2 * 0 + _ ≤ _; exact Nat.le_of_eq rfl) (hb hby d7_24) (fun _ _ => ⟨rfl, e15, (by decide : 1 + 0 ≤ _), (by decide : 128 + 0 ≤ _)⟩)
  dsimp only [Pt.U, Pt.locs, Pt.cells, Pt.slots] at X16 l16 y16 z16 st16 hQ16
  subst l16 y16 z16
  obtain ⟨rfl, N16q, e16⟩ := hQ16
  have N16 := Fr.app N15 N16q
  refine go_tr (B := (T16.setTop (mkF m 27 #[.val (.ref a), .val (.ref b1), .val (.int (2 : Int32))] [(.int c2), (.ref b1)]))) (st16) ?_
  refine go_of (B := (T16.setTop (mkF m 28 #[.val (.ref a), .val (.ref b1), .val (.int (2 : Int32))] [(.int (2 : Int32)), (.int c2), (.ref b1)]))) (fun _ kk => XS.iloadN X16.here hx rfl (hb hby d7_27) rfl kk) ?_
  refine go_of (B := (T16.setTop (mkF m 29 #[.val (.ref a), .val (.ref b1), .val (.int (2 : Int32))] [(.int (2 : Int32)), (.int c2), (.ref b1)]))) (fun _ kk => XS.i2b X16.here hx rfl (hb hby d7_28) rfl kk) ?_
  obtain ⟨cl17, Ar17, Sz17, -⟩ := id F12
  obtain ⟨T17, h17, X17, e17, W17, st17⟩ := stB X16 hx hZ e16 Ar17 (j := c2) (own_inb (own_idx hc2).1 (by rw [Sz17]; exact (own_idx hc2).2)) (g := (mkF m 29 #[.val (.ref a), .val (.ref b1), .val (.int (2 : Int32))] [(.int (2 : Int32)), (.int c2), (.ref b1)])) rfl rfl (hb hby d7_29)
  have sz17 := W17.size
  have N17 := Fr.snoc X17 N16 (own_le (by omega) : n0 ≤ b1)
  have F17 := F12.wr W17 (own_idx hc2).2
  refine go_of (B := (T17.setTop (mkF m 30 #[.val (.ref a), .val (.ref b1), .val (.int (2 : Int32))] []))) (st17) ?_
  refine go_of (B := (T17.setTop (mkF m 33 #[.val (.ref a), .val (.ref b1), .val (.int (3 : Int32))] []))) (fun _ kk => XS.iinc X17.here hx rfl (hb hby d7_30) rfl rfl kk) ?_
  refine go_of (B := (T17.setTop (mkF m 13 #[.val (.ref a), .val (.ref b1), .val (.int (3 : Int32))] []))) (fun _ kk => XS.goto X17.here hx rfl (pc0 := 33) (pc' := 13) rfl (hb hby d7_33) (by decide) (by decide) kk) ?_
  refine go_of (B := (T17.setTop (mkF m 14 #[.val (.ref a), .val (.ref b1), .val (.int (3 : Int32))] [(.int (3 : Int32))]))) (fun _ kk => XS.iloadN X17.here hx rfl (hb hby d7_13) rfl kk) ?_
  refine go_of (B := (T17.setTop (mkF m 15 #[.val (.ref a), .val (.ref b1), .val (.int (3 : Int32))] [(.ref a), (.int (3 : Int32))]))) (fun _ kk => XS.aloadN X17.here hx rfl (hb hby d7_14) rfl rfl kk) ?_
  have cf_18 := S.ext (own_kx ((((((Keep.refl h0 []).ext E1).trans K2 (allS (Or.inr (by first | omega | exact own_ne (by omega) | exact own_le (by omega))) all0)).wr W7 (Or.inr (by first | omega | exact own_ne (by omega) | exact own_le (by omega)))).wr W12 (Or.inr (by first | omega | exact own_ne (by omega) | exact own_le (by omega)))).wr W17 (Or.inr (by first | omega | exact own_ne (by omega) | exact own_le (by omega)))))
  have cf_19 := (cf_14.wr W17 (by first | omega | exact own_ne (by omega) | exact own_le (by omega)))
  obtain ⟨cq20, kq20, q20a, q20b, q20c⟩ := isOf hZ e17 cf_18.exa
  obtain ⟨_, _, ⟨T20, L20, k20, n20⟩, -, X20, ⟨Lc20, hQ20, l20, y20, z20⟩, st20⟩ := X17.virtualBack hx (y := (⟨"java/lang/String", "length", "()I"⟩ : MethodName)) (z := (⟨"java/lang/String", "length", "()I"⟩ : MethodName)) hown (mvT hZ (hw _ (List.mem_of_getElem? (i := 38) rfl))) (mvT hZ (hw _ (List.mem_of_getElem? (i := 39) rfl))) (notFace_of_selects (args := #[]) (mvT hZ (hw _ (List.mem_of_getElem? (i := 41) rfl)))) (mvT hZ (hw _ (List.mem_of_getElem? (i := 41) rfl))) (mvT hZ (hw _ (List.mem_of_getElem? (i := 40) rfl))) (by decide) (backOf (W := 1) (str_len_3 l Z a0 hw [] a c0 c1 c2 gC h17 n0 (by first | omega | exact own_ne (by omega) | exact own_le (by omega)) cf_19 SC hgC cf_18) hZ (hw _ (List.mem_of_getElem? (i := 42) rfl)) (hw _ (List.mem_of_getElem? (i := 3) rfl)) (by decide) (by decide)) q20a q20c (g := (mkF m 15 #[.val (.ref a), .val (.ref b1), .val (.int (3 : Int32))] [(.ref a), (.int (3 : Int32))])) rfl (by rw [hml]; rfl) (Steps.refl _) (argsL := []) (rest := [(.int (3 : Int32))]) (lenOf pd___I rfl) rfl (by show 2 * 0 + _ ≤ _; exact Nat.le_of_eq rfl) (hb hby d7_15) (fun _ _ => ⟨rfl, e17, (by decide : 1 + 0 ≤ _), (by decide : 128 + 0 ≤ _)⟩)
  dsimp only [Pt.U, Pt.locs, Pt.cells, Pt.slots] at X20 l20 y20 z20 st20 hQ20
  subst l20 y20 z20
  obtain ⟨rfl, N20q, e20⟩ := hQ20
  have N20 := Fr.app N17 N20q
  refine go_tr (B := (T20.setTop (mkF m 18 #[.val (.ref a), .val (.ref b1), .val (.int (3 : Int32))] [(.int (3 : Int32)), (.int (3 : Int32))]))) (st20) ?_
  refine go_of (B := (T20.setTop (mkF m 36 #[.val (.ref a), .val (.ref b1), .val (.int (3 : Int32))] []))) (fun _ kk => XS.icmpYes X20.here hx rfl (pc0 := 18) (pc' := 36) rfl (hb hby d7_18) rfl (flt (by decide : ¬ ((3 : Int32) < (3 : Int32)))).2.1 (by decide) (by decide) kk) ?_
  refine go_of (B := (T20.setTop (mkF m 37 #[.val (.ref a), .val (.ref b1), .val (.int (3 : Int32))] [(.ref b1)]))) (fun _ kk => XS.aloadN X20.here hx rfl (hb hby d7_36) rfl rfl kk) ?_
  refine go_end X20 (v := some (.ref b1)) (fun h => by rw [Bd.returns] at h; cases h) Bd.notSynchronized (by decide) (by decide) (Q := (Q_rm7 Z a c0 c1 c2 gC gF h0 n0)) ?_ (fun fs hr => own_retA X20 hx Bd.returns rfl rfl (hb hby d7_37) hr)
  show (fun (v : Option Value) (h : Heap) (L : List Loc) => ∃ t : Addr, v = some (.ref t) ∧ Fr n0 L ∧ Keep h0 h [] ∧ Tab Z h t 128 (own_tab c0 c1 c2)) (some (.ref b1)) T20.heap _
  rw [e20]
  exact ⟨b1, rfl, N20, ((((((Keep.refl h0 []).ext E1).trans K2 (allS (Or.inr (by first | omega | exact own_ne (by omega) | exact own_le (by omega))) all0)).wr W7 (Or.inr (by first | omega | exact own_ne (by omega) | exact own_le (by omega)))).wr W12 (Or.inr (by first | omega | exact own_ne (by omega) | exact own_le (by omega)))).wr W17 (Or.inr (by first | omega | exact own_ne (by omega) | exact own_le (by omega)))), F17.cong (fun k hk => rfl)⟩
def own_val (f : Nat → Int32) (c : Int32) : Int32 := if c < (128 : Int32) then f c.toNatClampNeg else -1
theorem own_le127 {x : Int32} (h : x < (128 : Int32)) : ¬ (127 : Int32) < x := by rw [Int32.lt_iff_toInt_lt] at h ⊢; have e1 : (127 : Int32).toInt = 127 := rfl; have e2 : (128 : Int32).toInt = 128 := rfl; omega
theorem d16_0 : decode prog_15_method_5_code 0 = .ok (.iload_n 1, 1) := by decide +kernel
theorem d16_1 : decode prog_15_method_5_code 1 = .ok (.aload_n 0, 1) := by decide +kernel
theorem d16_2 : decode prog_15_method_5_code 2 = .ok (.arraylength, 1) := by decide +kernel
theorem d16_3 : decode prog_15_method_5_code 3 = .ok (.if_icmp .ge 9, 3) := by decide +kernel
theorem d16_6 : decode prog_15_method_5_code 6 = .ok (.aload_n 0, 1) := by decide +kernel
theorem d16_7 : decode prog_15_method_5_code 7 = .ok (.iload_n 1, 1) := by decide +kernel
theorem d16_8 : decode prog_15_method_5_code 8 = .ok (.baload, 1) := by decide +kernel
theorem d16_9 : decode prog_15_method_5_code 9 = .ok (.goto 4, 3) := by decide +kernel
theorem d16_13 : decode prog_15_method_5_code 13 = .ok (.ireturn, 1) := by decide +kernel
def Q_rm16 (Z : State) (t : Addr) (x : Int32) (f : Nat → Int32) (h0 : Heap) (n0 : Nat) (v : Option Value) (h : Heap) (L : List Loc) : Prop := v = some (.int (own_val f x)) ∧ Fr n0 L ∧ h = h0
theorem d16_12 : decode prog_15_method_5_code 12 = .ok (.iconst (-1), 1) := by decide +kernel
theorem ef_rm16 (m : MethodId) (t : Addr) (x : Int32)  : entryFrame m #[(.ref t), (.int x)] 2 = mkF m 0 #[.val (.ref t), .val (.int x)] [] := by first | (simp [entryFrame, mkF, argsToLocals, Value.category]; done) | rfl
set_option maxRecDepth 65536 in
set_option maxHeartbeats 40000000 in
theorem rm16 (l : Launch) (Z : State) (a0 : Array Value) (hw : ∀ d ∈ tables_1, d.before a0 Z = true) (ws : List Jvm.Cond) (t : Addr) (x : Int32) (f : Nat → Int32) (h0 : Heap) (n0 : Nat) (Z0 : n0 ≤ h0.size) (F : Tab Z h0 t 128 f) (hx0 : ¬ x < 0) :
    MetFree l (⟨"com/example/libpubid/libpubid/id/Digits", "value", "([BC)I"⟩ : MethodName) (head1 (Jvm.Cond.code (⟨"com/example/libpubid/libpubid/id/Digits", "value", "([BC)I"⟩ : MethodName) prog_15_method_5_code 2 (some .int) :: ws) ({ frames := 0, cells := 0, slots := 0, locals := 0 } : Room)) (fun aa' U1' => aa' = #[(.ref t), (.int x)] ∧ Z.Warmed39 U1'.vm ∧ U1'.heap = h0) (fun _ _ _ _ _ => True) (fun _ U1' oo' U2' => ∃ vv' LL', oo' = .returned vv' ∧ (Q_rm16 Z t x f h0 n0) vv' U2'.heap LL' ∧ FrameEnd U1' oo' U2' LL' ({ frames := 0, cells := 0, slots := 0, locals := 0 } : Room).cells ({ frames := 0, cells := 0, slots := 0, locals := 0 } : Room).slots) := by
  refine MetFree.of_bodySF (plainFor_of_name pn_com_example_libpubid_libpubid_id_Digits) hisR ?_
  intro p e s m args below meth c s₁ Bd hml0 hP hK
  obtain ⟨rfl, hZ, hh⟩ := hP
  have hx := Bd.exec
  have hby := Bd.bytes
  have hml : c.maxLocals = 2 := hml0
  have hown : s.vm.findClass "com/example/libpubid/libpubid/id/Digits" = some m.cls := findClass_of_methodNamed Bd.named
  have hnm := (name_of_methodNamed Bd.named Bd.method).1
  have X0 : Stand p l e ({ frames := 0, cells := 0, slots := 0, locals := 0 } : Room) s m #[(.ref t), (.int x)] below meth c s₁ [] 0 0 := Stand.of_body Bd
  have e0 : s₁.heap = h0 := by rw [← hh, Bd.state]; rfl
  have N0 := Fr.nil n0
  refine go_of (A := s₁.setTop (entryFrame m #[(.ref t), (.int x)] 2)) (B := s₁.setTop (mkF m 0 #[.val (.ref t), .val (.int x)] [])) (fun _ kk' => castTop (ef_rm16 m t x) kk') ?_
  refine go_of (B := (s₁.setTop (mkF m 1 #[.val (.ref t), .val (.int x)] [(.int x)]))) (fun _ kk => XS.iloadN X0.here hx rfl (hb hby d16_0) rfl kk) ?_
  refine go_of (B := (s₁.setTop (mkF m 2 #[.val (.ref t), .val (.int x)] [(.ref t), (.int x)]))) (fun _ kk => XS.aloadN X0.here hx rfl (hb hby d16_1) rfl rfl kk) ?_
  obtain ⟨cl1, Ar1, Sz1, Hh1⟩ := id F
  have ln1 : cl1.slots.size.toInt32 = (128 : Int32) := by rw [Sz1]; rfl
  refine go_of (B := (s₁.setTop (mkF m 3 #[.val (.ref t), .val (.int x)] [(.int (128 : Int32)), (.int x)]))) (fun _ kk => X0.arraylength hx (by rw [e0]; exact Ar1.1) (State.isArrayOf_alike hZ.alike Ar1.2.1) (g := (mkF m 2 #[.val (.ref t), .val (.int x)] [(.ref t), (.int x)])) rfl rfl (hb hby d16_2) _ (by rw [ln1]; exact kk)) ?_
  by_cases hc2 : x < (128 : Int32)
  · refine go_of (B := (s₁.setTop (mkF m 6 #[.val (.ref t), .val (.int x)] []))) (fun _ kk => XS.icmpNo X0.here hx rfl (hb hby d16_3) rfl (tlt hc2).2.1 kk) ?_
    refine go_of (B := (s₁.setTop (mkF m 7 #[.val (.ref t), .val (.int x)] [(.ref t)]))) (fun _ kk => XS.aloadN X0.here hx rfl (hb hby d16_6) rfl rfl kk) ?_
    refine go_of (B := (s₁.setTop (mkF m 8 #[.val (.ref t), .val (.int x)] [(.int x), (.ref t)]))) (fun _ kk => XS.iloadN X0.here hx rfl (hb hby d16_7) rfl kk) ?_
    have i3 := own_idx (c := x) ⟨hx0, own_le127 hc2⟩
    refine go_of (B := (s₁.setTop (mkF m 9 #[.val (.ref t), .val (.int x)] [(.int (f x.toNatClampNeg))]))) (fun _ kk => X0.baloadBytes hx (j := x) (v := (.int (f x.toNatClampNeg))) (by rw [e0]; exact Ar1.1) (State.isArrayOf_alike hZ.alike Ar1.2.1) Ar1.2.2 (own_inb i3.1 (by rw [Sz1]; exact i3.2)) (Hh1 _ i3.2) (g := (mkF m 8 #[.val (.ref t), .val (.int x)] [(.int x), (.ref t)])) rfl rfl (hb hby d16_8) _ kk) ?_
    refine go_of (B := (s₁.setTop (mkF m 13 #[.val (.ref t), .val (.int x)] [(.int (f x.toNatClampNeg))]))) (fun _ kk => XS.goto X0.here hx rfl (pc0 := 9) (pc' := 13) rfl (hb hby d16_9) (by decide) (by decide) kk) ?_
    refine go_end X0 (v := some (.int (f x.toNatClampNeg))) (fun h => by rw [Bd.returns] at h; cases h) Bd.notSynchronized (by decide) (by decide) (Q := (Q_rm16 Z t x f h0 n0)) ?_ (fun fs hr => own_retI X0 hx Bd.returns (hb hby d16_13) hr)
    show (fun (v : Option Value) (h : Heap) (L : List Loc) => v = some (.int (own_val f x)) ∧ Fr n0 L ∧ h = h0) (some (.int (f x.toNatClampNeg))) s₁.heap _
    rw [e0]
    refine ⟨?_, N0, rfl⟩
    simp [own_val, hc2]
  · refine go_of (B := (s₁.setTop (mkF m 12 #[.val (.ref t), .val (.int x)] []))) (fun _ kk => XS.icmpYes X0.here hx rfl (pc0 := 3) (pc' := 12) rfl (hb hby d16_3) rfl (flt hc2).2.1 (by decide) (by decide) kk) ?_
    refine go_of (B := (s₁.setTop (mkF m 13 #[.val (.ref t), .val (.int x)] [(.int (-1 : Int32))]))) (fun _ kk => XS.iconst X0.here hx rfl (hb hby d16_12) kk) ?_
    refine go_end X0 (v := some (.int (-1 : Int32))) (fun h => by rw [Bd.returns] at h; cases h) Bd.notSynchronized (by decide) (by decide) (Q := (Q_rm16 Z t x f h0 n0)) ?_ (fun fs hr => own_retI X0 hx Bd.returns (hb hby d16_13) hr)
    show (fun (v : Option Value) (h : Heap) (L : List Loc) => v = some (.int (own_val f x)) ∧ Fr n0 L ∧ h = h0) (some (.int (-1 : Int32))) s₁.heap _
    rw [e0]
    refine ⟨?_, N0, rfl⟩
    simp [own_val, hc2]
theorem own_c127 (x : Int32) : ¬ (x &&& (127 : Int32)).toUInt32.toUInt16.toUInt32.toInt32 < 0 ∧ ¬ (127 : Int32) < (x &&& (127 : Int32)).toUInt32.toUInt16.toUInt32.toInt32 := by
  have h : (x &&& (127 : Int32)).toInt = x.toInt % 128 := c_mask x 127 7 (by decide) (by decide)
  have h5 := c_i2c (x &&& (127 : Int32))
  rw [Int32.lt_iff_toInt_lt, Int32.lt_iff_toInt_lt]
  have e1 : (127 : Int32).toInt = 127 := rfl; have e0 : (0 : Int32).toInt = 0 := rfl
  omega
theorem own_c16 (x : Int32) : ¬ x.toUInt32.toUInt16.toUInt32.toInt32 < 0 := by
  have h5 := c_i2c x
  rw [Int32.lt_iff_toInt_lt]; have e0 : (0 : Int32).toInt = 0 := rfl; omega
theorem own_inj {c d : Int32} (h : ¬ c < 0) (h' : ¬ d < 0) (e : c.toNatClampNeg = d.toNatClampNeg) : c = d := by
  rw [Int32.lt_iff_toInt_lt] at h h'; have e0 : (0 : Int32).toInt = 0 := rfl
  have e1 : c.toNatClampNeg = c.toInt.toNat := rfl
  have e2 : d.toNatClampNeg = d.toInt.toNat := rfl
  apply Int32.toInt_inj.mp; rw [e1, e2] at e; omega
theorem own_valtab (a b d c : Int32) (ha : ¬ a < 0 ∧ ¬ (127 : Int32) < a) (hb : ¬ b < 0 ∧ ¬ (127 : Int32) < b) (hd : ¬ d < 0 ∧ ¬ (127 : Int32) < d) (hc : ¬ c < 0) : own_val (own_tab a b d) c = if c = d then 2 else if c = b then 1 else if c = a then 0 else -1 := by
  have k : ∀ z : Int32, ¬ z < 0 ∧ ¬ (127 : Int32) < z → (c.toNatClampNeg = z.toNatClampNeg ↔ c = z) := fun z hz => ⟨own_inj hc hz.1, fun q => by rw [q]⟩
  unfold own_val own_tab
  by_cases q : c < (128 : Int32)
  · rw [if_pos q]; simp only [k a ha, k b hb, k d hd]
  · rw [if_neg q]
    have n : ∀ z : Int32, ¬ z < 0 ∧ ¬ (127 : Int32) < z → ¬ c = z := fun z hz r => by subst r; apply q; have := hz.2; rw [Int32.lt_iff_toInt_lt] at this ⊢; have e1 : (127 : Int32).toInt = 127 := rfl; have e2 : (128 : Int32).toInt = 128 := rfl; omega
    rw [if_neg (n d hd), if_neg (n b hb), if_neg (n a ha)]
def Q_rm0 (Z : State) (p0 : Int32) (p1 : Int32) (p2 : Int32) (sel : Int32) (xx : Int32) (gC : Int32) (gF : Value) (h0 : Heap) (n0 : Nat) (v : Option Value) (h : Heap) (L : List Loc) : Prop := v = some (.int 1) ∧ Fr n0 L
theorem pd___C_V : parseMethodDescriptor "([C)V" = some ⟨[(.array .char)], none⟩ := by decide +kernel
theorem pd__Ljava_lang_String___B : parseMethodDescriptor "(Ljava/lang/String;)[B" = some ⟨[(.object "java/lang/String")], some (.array .byte)⟩ := by decide +kernel
theorem pd___BC_I : parseMethodDescriptor "([BC)I" = some ⟨[(.array .byte), .char], some .int⟩ := by decide +kernel
theorem pn_com_example_libpubid_libpubid_id_DigitsValuePinLaw : plainName "com/example/libpubid/libpubid/id/DigitsValuePinLaw" = true := by first | (simp [plainName, overriddenIn]; done) | decide +kernel
theorem ef_rm0 (m : MethodId) (p0 : Int32) (p1 : Int32) (p2 : Int32) (sel : Int32) (xx : Int32)  : entryFrame m #[(.int p0), (.int p1), (.int p2), (.int sel), (.int xx)] maxLocals = mkF m 0 #[.val (.int p0), .val (.int p1), .val (.int p2), .val (.int sel), .val (.int xx), .unset, .unset, .unset, .unset, .unset, .unset, .unset, .unset] [] := by first | (simp [entryFrame, mkF, argsToLocals, Value.category, maxLocals]; done) | rfl
set_option maxRecDepth 65536 in
set_option maxHeartbeats 40000000 in
theorem rm0 (l : Launch) (Z : State) (a0 : Array Value) (hw : ∀ d ∈ tables_1, d.before a0 Z = true) (ws : List Jvm.Cond) (p0 : Int32) (p1 : Int32) (p2 : Int32) (sel : Int32) (xx : Int32) (gC : Int32) (gF : Value) (h0 : Heap) (n0 : Nat) (Z0 : n0 ≤ h0.size) (O : Old Z n0 h0) (SC : Sta Z Z.heap "java/lang/String" "COMPACT_STRINGS" "Z" (.int gC)) (hgC : ¬ gC = (0 : Int32)) (SF : Sta Z Z.heap "jdk/internal/util/Preconditions" "SIOOBE_FORMATTER" "Ljava/util/function/BiFunction;" gF) (rgF : gF.isRef = true) :
    MetFree l x (head1 (Jvm.Cond.code x code maxLocals ret :: ws) room_1) (fun aa' U1' => aa' = #[(.int p0), (.int p1), (.int p2), (.int sel), (.int xx)] ∧ Z.Warmed39 U1'.vm ∧ U1'.heap = h0) (fun _ _ _ _ _ => True) (fun _ U1' oo' U2' => ∃ vv' LL', oo' = .returned vv' ∧ (Q_rm0 Z p0 p1 p2 sel xx gC gF h0 n0) vv' U2'.heap LL' ∧ FrameEnd U1' oo' U2' LL' room_1.cells room_1.slots) := by
  refine MetFree.of_bodySF (plainFor_of_name pn_com_example_libpubid_libpubid_id_DigitsValuePinLaw) hisR ?_
  intro p e s m args below meth c s₁ Bd hml0 hP hK
  obtain ⟨rfl, hZ, hh⟩ := hP
  have hx := Bd.exec
  have hby := Bd.bytes
  have hml : c.maxLocals = 13 := hml0
  have hown : s.vm.findClass "com/example/libpubid/libpubid/id/DigitsValuePinLaw" = some m.cls := findClass_of_methodNamed Bd.named
  have hnm := (name_of_methodNamed Bd.named Bd.method).1
  have X0 : Stand p l e room_1 s m #[(.int p0), (.int p1), (.int p2), (.int sel), (.int xx)] below meth c s₁ [] 0 0 := Stand.of_body Bd
  have e0 : s₁.heap = h0 := by rw [← hh, Bd.state]; rfl
  have N0 := Fr.nil n0
  refine go_of (A := s₁.setTop (entryFrame m #[(.int p0), (.int p1), (.int p2), (.int sel), (.int xx)] maxLocals)) (B := s₁.setTop (mkF m 0 #[.val (.int p0), .val (.int p1), .val (.int p2), .val (.int sel), .val (.int xx), .unset, .unset, .unset, .unset, .unset, .unset, .unset, .unset] [])) (fun _ kk' => castTop (ef_rm0 m p0 p1 p2 sel xx) kk') ?_
  refine go_of (B := (s₁.setTop (mkF m 1 #[.val (.int p0), .val (.int p1), .val (.int p2), .val (.int sel), .val (.int xx), .unset, .unset, .unset, .unset, .unset, .unset, .unset, .unset] [(.int p0)]))) (fun _ kk => XS.iloadN X0.here hx rfl (hb hby at_0) rfl kk) ?_
  refine go_of (B := (s₁.setTop (mkF m 3 #[.val (.int p0), .val (.int p1), .val (.int p2), .val (.int sel), .val (.int xx), .unset, .unset, .unset, .unset, .unset, .unset, .unset, .unset] [(.int (127 : Int32)), (.int p0)]))) (fun _ kk => XS.bipush X0.here hx rfl (hb hby at_1) kk) ?_
  refine go_of (B := (s₁.setTop (mkF m 4 #[.val (.int p0), .val (.int p1), .val (.int p2), .val (.int sel), .val (.int xx), .unset, .unset, .unset, .unset, .unset, .unset, .unset, .unset] [(.int (p0 &&& (127 : Int32)))]))) (fun _ kk => XS.iand X0.here hx rfl (hb hby at_3) rfl kk) ?_
  refine go_of (B := (s₁.setTop (mkF m 5 #[.val (.int p0), .val (.int p1), .val (.int p2), .val (.int sel), .val (.int xx), .unset, .unset, .unset, .unset, .unset, .unset, .unset, .unset] [(.int ((p0 &&& (127 : Int32)).toUInt32.toUInt16.toUInt32.toInt32))]))) (fun _ kk => XS.i2c X0.here hx rfl (hb hby at_4) rfl kk) ?_
  refine go_of (B := (s₁.setTop (mkF m 7 #[.val (.int p0), .val (.int p1), .val (.int p2), .val (.int sel), .val (.int xx), .val (.int ((p0 &&& (127 : Int32)).toUInt32.toUInt16.toUInt32.toInt32)), .unset, .unset, .unset, .unset, .unset, .unset, .unset] []))) (fun _ kk => XS.istore X0.here hx rfl (hb hby at_5) rfl rfl kk) ?_
  generalize hi1 : ((p0 &&& (127 : Int32)).toUInt32.toUInt16.toUInt32.toInt32) = i1
  refine go_of (B := (s₁.setTop (mkF m 8 #[.val (.int p0), .val (.int p1), .val (.int p2), .val (.int sel), .val (.int xx), .val (.int i1), .unset, .unset, .unset, .unset, .unset, .unset, .unset] [(.int p1)]))) (fun _ kk => XS.iloadN X0.here hx rfl (hb hby at_7) rfl kk) ?_
  refine go_of (B := (s₁.setTop (mkF m 10 #[.val (.int p0), .val (.int p1), .val (.int p2), .val (.int sel), .val (.int xx), .val (.int i1), .unset, .unset, .unset, .unset, .unset, .unset, .unset] [(.int (127 : Int32)), (.int p1)]))) (fun _ kk => XS.bipush X0.here hx rfl (hb hby at_8) kk) ?_
  refine go_of (B := (s₁.setTop (mkF m 11 #[.val (.int p0), .val (.int p1), .val (.int p2), .val (.int sel), .val (.int xx), .val (.int i1), .unset, .unset, .unset, .unset, .unset, .unset, .unset] [(.int (p1 &&& (127 : Int32)))]))) (fun _ kk => XS.iand X0.here hx rfl (hb hby at_10) rfl kk) ?_
  refine go_of (B := (s₁.setTop (mkF m 12 #[.val (.int p0), .val (.int p1), .val (.int p2), .val (.int sel), .val (.int xx), .val (.int i1), .unset, .unset, .unset, .unset, .unset, .unset, .unset] [(.int ((p1 &&& (127 : Int32)).toUInt32.toUInt16.toUInt32.toInt32))]))) (fun _ kk => XS.i2c X0.here hx rfl (hb hby at_11) rfl kk) ?_
  refine go_of (B := (s₁.setTop (mkF m 14 #[.val (.int p0), .val (.int p1), .val (.int p2), .val (.int sel), .val (.int xx), .val (.int i1), .val (.int ((p1 &&& (127 : Int32)).toUInt32.toUInt16.toUInt32.toInt32)), .unset, .unset, .unset, .unset, .unset, .unset] []))) (fun _ kk => XS.istore X0.here hx rfl (hb hby at_12) rfl rfl kk) ?_
  generalize hi2 : ((p1 &&& (127 : Int32)).toUInt32.toUInt16.toUInt32.toInt32) = i2
  refine go_of (B := (s₁.setTop (mkF m 15 #[.val (.int p0), .val (.int p1), .val (.int p2), .val (.int sel), .val (.int xx), .val (.int i1), .val (.int i2), .unset, .unset, .unset, .unset, .unset, .unset] [(.int p2)]))) (fun _ kk => XS.iloadN X0.here hx rfl (hb hby at_14) rfl kk) ?_
  refine go_of (B := (s₁.setTop (mkF m 17 #[.val (.int p0), .val (.int p1), .val (.int p2), .val (.int sel), .val (.int xx), .val (.int i1), .val (.int i2), .unset, .unset, .unset, .unset, .unset, .unset] [(.int (127 : Int32)), (.int p2)]))) (fun _ kk => XS.bipush X0.here hx rfl (hb hby at_15) kk) ?_
  refine go_of (B := (s₁.setTop (mkF m 18 #[.val (.int p0), .val (.int p1), .val (.int p2), .val (.int sel), .val (.int xx), .val (.int i1), .val (.int i2), .unset, .unset, .unset, .unset, .unset, .unset] [(.int (p2 &&& (127 : Int32)))]))) (fun _ kk => XS.iand X0.here hx rfl (hb hby at_17) rfl kk) ?_
  refine go_of (B := (s₁.setTop (mkF m 19 #[.val (.int p0), .val (.int p1), .val (.int p2), .val (.int sel), .val (.int xx), .val (.int i1), .val (.int i2), .unset, .unset, .unset, .unset, .unset, .unset] [(.int ((p2 &&& (127 : Int32)).toUInt32.toUInt16.toUInt32.toInt32))]))) (fun _ kk => XS.i2c X0.here hx rfl (hb hby at_18) rfl kk) ?_
  refine go_of (B := (s₁.setTop (mkF m 21 #[.val (.int p0), .val (.int p1), .val (.int p2), .val (.int sel), .val (.int xx), .val (.int i1), .val (.int i2), .val (.int ((p2 &&& (127 : Int32)).toUInt32.toUInt16.toUInt32.toInt32)), .unset, .unset, .unset, .unset, .unset] []))) (fun _ kk => XS.istore X0.here hx rfl (hb hby at_19) rfl rfl kk) ?_
  generalize hi3 : ((p2 &&& (127 : Int32)).toUInt32.toUInt16.toUInt32.toInt32) = i3
  have ri1 : ¬ i1 < 0 ∧ ¬ (127 : Int32) < i1 := by rw [← hi1]; exact own_c127 p0
  have rri1 := own_127 ri1
  have ri2 : ¬ i2 < 0 ∧ ¬ (127 : Int32) < i2 := by rw [← hi2]; exact own_c127 p1
  have rri2 := own_127 ri2
  have ri3 : ¬ i3 < 0 ∧ ¬ (127 : Int32) < i3 := by rw [← hi3]; exact own_c127 p2
  have rri3 := own_127 ri3
  refine go_of (B := (s₁.setTop (mkF m 23 #[.val (.int p0), .val (.int p1), .val (.int p2), .val (.int sel), .val (.int xx), .val (.int i1), .val (.int i2), .val (.int i3), .unset, .unset, .unset, .unset, .unset] [(.int i1)]))) (fun _ kk => XS.iload X0.here hx rfl (hb hby at_21) rfl kk) ?_
  refine go_of (B := (s₁.setTop (mkF m 25 #[.val (.int p0), .val (.int p1), .val (.int p2), .val (.int sel), .val (.int xx), .val (.int i1), .val (.int i2), .val (.int i3), .unset, .unset, .unset, .unset, .unset] [(.int i2), (.int i1)]))) (fun _ kk => XS.iload X0.here hx rfl (hb hby at_23) rfl kk) ?_
  by_cases hc4 : i1 = i2
  · refine go_of (B := (s₁.setTop (mkF m 42 #[.val (.int p0), .val (.int p1), .val (.int p2), .val (.int sel), .val (.int xx), .val (.int i1), .val (.int i2), .val (.int i3), .unset, .unset, .unset, .unset, .unset] []))) (fun _ kk => XS.icmpYes X0.here hx rfl (pc0 := 25) (pc' := 42) rfl (hb hby at_25) rfl (teq hc4).1 (by decide) (by decide) kk) ?_
    refine go_of (B := (s₁.setTop (mkF m 43 #[.val (.int p0), .val (.int p1), .val (.int p2), .val (.int sel), .val (.int xx), .val (.int i1), .val (.int i2), .val (.int i3), .unset, .unset, .unset, .unset, .unset] [(.int (1 : Int32))]))) (fun _ kk => XS.iconst X0.here hx rfl (hb hby at_42) kk) ?_
    refine go_end X0 (v := some (.int (nar .boolean (1 : Int32)))) (fun h => by rw [Bd.returns] at h; cases h) Bd.notSynchronized (by decide) (by decide) (Q := (Q_rm0 Z p0 p1 p2 sel xx gC gF h0 n0)) ?_ (fun fs hr => retN X0 hx (t := .boolean) Bd.returns (by simp) (hb hby at_43) hr)
    show (fun (v : Option Value) (h : Heap) (L : List Loc) => v = some (.int 1) ∧ Fr n0 L) (some (.int (nar .boolean (1 : Int32)))) s₁.heap _
    rw [e0]
    exact ⟨rfl, N0⟩
  · refine go_of (B := (s₁.setTop (mkF m 28 #[.val (.int p0), .val (.int p1), .val (.int p2), .val (.int sel), .val (.int xx), .val (.int i1), .val (.int i2), .val (.int i3), .unset, .unset, .unset, .unset, .unset] []))) (fun _ kk => XS.icmpNo X0.here hx rfl (hb hby at_25) rfl (feq hc4).1 kk) ?_
    refine go_of (B := (s₁.setTop (mkF m 30 #[.val (.int p0), .val (.int p1), .val (.int p2), .val (.int sel), .val (.int xx), .val (.int i1), .val (.int i2), .val (.int i3), .unset, .unset, .unset, .unset, .unset] [(.int i1)]))) (fun _ kk => XS.iload X0.here hx rfl (hb hby at_28) rfl kk) ?_
    refine go_of (B := (s₁.setTop (mkF m 32 #[.val (.int p0), .val (.int p1), .val (.int p2), .val (.int sel), .val (.int xx), .val (.int i1), .val (.int i2), .val (.int i3), .unset, .unset, .unset, .unset, .unset] [(.int i3), (.int i1)]))) (fun _ kk => XS.iload X0.here hx rfl (hb hby at_30) rfl kk) ?_
    by_cases hc5 : i1 = i3
    · refine go_of (B := (s₁.setTop (mkF m 42 #[.val (.int p0), .val (.int p1), .val (.int p2), .val (.int sel), .val (.int xx), .val (.int i1), .val (.int i2), .val (.int i3), .unset, .unset, .unset, .unset, .unset] []))) (fun _ kk => XS.icmpYes X0.here hx rfl (pc0 := 32) (pc' := 42) rfl (hb hby at_32) rfl (teq hc5).1 (by decide) (by decide) kk) ?_
      refine go_of (B := (s₁.setTop (mkF m 43 #[.val (.int p0), .val (.int p1), .val (.int p2), .val (.int sel), .val (.int xx), .val (.int i1), .val (.int i2), .val (.int i3), .unset, .unset, .unset, .unset, .unset] [(.int (1 : Int32))]))) (fun _ kk => XS.iconst X0.here hx rfl (hb hby at_42) kk) ?_
      refine go_end X0 (v := some (.int (nar .boolean (1 : Int32)))) (fun h => by rw [Bd.returns] at h; cases h) Bd.notSynchronized (by decide) (by decide) (Q := (Q_rm0 Z p0 p1 p2 sel xx gC gF h0 n0)) ?_ (fun fs hr => retN X0 hx (t := .boolean) Bd.returns (by simp) (hb hby at_43) hr)
      show (fun (v : Option Value) (h : Heap) (L : List Loc) => v = some (.int 1) ∧ Fr n0 L) (some (.int (nar .boolean (1 : Int32)))) s₁.heap _
      rw [e0]
      exact ⟨rfl, N0⟩
    · refine go_of (B := (s₁.setTop (mkF m 35 #[.val (.int p0), .val (.int p1), .val (.int p2), .val (.int sel), .val (.int xx), .val (.int i1), .val (.int i2), .val (.int i3), .unset, .unset, .unset, .unset, .unset] []))) (fun _ kk => XS.icmpNo X0.here hx rfl (hb hby at_32) rfl (feq hc5).1 kk) ?_
      refine go_of (B := (s₁.setTop (mkF m 37 #[.val (.int p0), .val (.int p1), .val (.int p2), .val (.int sel), .val (.int xx), .val (.int i1), .val (.int i2), .val (.int i3), .unset, .unset, .unset, .unset, .unset] [(.int i2)]))) (fun _ kk => XS.iload X0.here hx rfl (hb hby at_35) rfl kk) ?_
      refine go_of (B := (s₁.setTop (mkF m 39 #[.val (.int p0), .val (.int p1), .val (.int p2), .val (.int sel), .val (.int xx), .val (.int i1), .val (.int i2), .val (.int i3), .unset, .unset, .unset, .unset, .unset] [(.int i3), (.int i2)]))) (fun _ kk => XS.iload X0.here hx rfl (hb hby at_37) rfl kk) ?_
      by_cases hc6 : i2 = i3
      · refine go_of (B := (s₁.setTop (mkF m 42 #[.val (.int p0), .val (.int p1), .val (.int p2), .val (.int sel), .val (.int xx), .val (.int i1), .val (.int i2), .val (.int i3), .unset, .unset, .unset, .unset, .unset] []))) (fun _ kk => XS.icmpNo X0.here hx rfl (hb hby at_39) rfl (teq hc6).2 kk) ?_
        refine go_of (B := (s₁.setTop (mkF m 43 #[.val (.int p0), .val (.int p1), .val (.int p2), .val (.int sel), .val (.int xx), .val (.int i1), .val (.int i2), .val (.int i3), .unset, .unset, .unset, .unset, .unset] [(.int (1 : Int32))]))) (fun _ kk => XS.iconst X0.here hx rfl (hb hby at_42) kk) ?_
        refine go_end X0 (v := some (.int (nar .boolean (1 : Int32)))) (fun h => by rw [Bd.returns] at h; cases h) Bd.notSynchronized (by decide) (by decide) (Q := (Q_rm0 Z p0 p1 p2 sel xx gC gF h0 n0)) ?_ (fun fs hr => retN X0 hx (t := .boolean) Bd.returns (by simp) (hb hby at_43) hr)
        show (fun (v : Option Value) (h : Heap) (L : List Loc) => v = some (.int 1) ∧ Fr n0 L) (some (.int (nar .boolean (1 : Int32)))) s₁.heap _
        rw [e0]
        exact ⟨rfl, N0⟩
      · refine go_of (B := (s₁.setTop (mkF m 44 #[.val (.int p0), .val (.int p1), .val (.int p2), .val (.int sel), .val (.int xx), .val (.int i1), .val (.int i2), .val (.int i3), .unset, .unset, .unset, .unset, .unset] []))) (fun _ kk => XS.icmpYes X0.here hx rfl (pc0 := 39) (pc' := 44) rfl (hb hby at_39) rfl (feq hc6).2 (by decide) (by decide) kk) ?_
        refine go_of (B := (s₁.setTop (mkF m 45 #[.val (.int p0), .val (.int p1), .val (.int p2), .val (.int sel), .val (.int xx), .val (.int i1), .val (.int i2), .val (.int i3), .unset, .unset, .unset, .unset, .unset] [(.int (3 : Int32))]))) (fun _ kk => XS.iconst X0.here hx rfl (hb hby at_44) kk) ?_
        obtain ⟨T7, h7, k7, X7, e7, E7, A7, st7⟩ := newP X0 hx hZ (hw _ (List.mem_of_getElem? (i := 0) rfl)) e0 (g := (mkF m 45 #[.val (.int p0), .val (.int p1), .val (.int p2), .val (.int sel), .val (.int xx), .val (.int i1), .val (.int i2), .val (.int i3), .unset, .unset, .unset, .unset, .unset] [(.int (3 : Int32))])) rfl (hb hby at_45) rfl (by decide) (cap := 3) (by decide) (by decide) (by decide) (by decide)
        obtain ⟨b7, g7⟩ : ∃ z, z = h0.size := ⟨_, rfl⟩
        rw [← g7] at A7 st7
        have hi7 := own_nlt A7.lt
        have sz7 := E7.1
        have V7 : Arv Z h7 b7 k7 .char (3 : Int32) [(.int (0 : Int32)), (.int (0 : Int32)), (.int (0 : Int32))] (.int (0 : Int32)) := (Arv.new A7 (by decide)).pad (pad_rep [] (.int (0 : Int32)) 3)
        refine go_of (B := (T7.setTop (mkF m 47 #[.val (.int p0), .val (.int p1), .val (.int p2), .val (.int sel), .val (.int xx), .val (.int i1), .val (.int i2), .val (.int i3), .unset, .unset, .unset, .unset, .unset] [(.ref b7)]))) (st7) ?_
        refine go_of (B := (T7.setTop (mkF m 49 #[.val (.int p0), .val (.int p1), .val (.int p2), .val (.int sel), .val (.int xx), .val (.int i1), .val (.int i2), .val (.int i3), .val (.ref b7), .unset, .unset, .unset, .unset] []))) (fun _ kk => XS.astore X7.here hx rfl (hb hby at_47) rfl rfl rfl kk) ?_
        refine go_of (B := (T7.setTop (mkF m 51 #[.val (.int p0), .val (.int p1), .val (.int p2), .val (.int sel), .val (.int xx), .val (.int i1), .val (.int i2), .val (.int i3), .val (.ref b7), .unset, .unset, .unset, .unset] [(.ref b7)]))) (fun _ kk => XS.aload X7.here hx rfl (hb hby at_49) rfl rfl kk) ?_
        refine go_of (B := (T7.setTop (mkF m 52 #[.val (.int p0), .val (.int p1), .val (.int p2), .val (.int sel), .val (.int xx), .val (.int i1), .val (.int i2), .val (.int i3), .val (.ref b7), .unset, .unset, .unset, .unset] [(.int (0 : Int32)), (.ref b7)]))) (fun _ kk => XS.iconst X7.here hx rfl (hb hby at_51) kk) ?_
        refine go_of (B := (T7.setTop (mkF m 54 #[.val (.int p0), .val (.int p1), .val (.int p2), .val (.int sel), .val (.int xx), .val (.int i1), .val (.int i2), .val (.int i3), .val (.ref b7), .unset, .unset, .unset, .unset] [(.int i1), (.int (0 : Int32)), (.ref b7)]))) (fun _ kk => XS.iload X7.here hx rfl (hb hby at_52) rfl kk) ?_
        obtain ⟨cl8, Ar8, q8, Sz8, Nn8, Hh8, G8⟩ := id (V7)
        obtain ⟨T9, h9, X9, e9, W9, st9⟩ := stC X7 hx hZ e7 Ar8 (j := (0 : Int32)) (inb_of Sz8 ⟨by decide, by decide⟩) (g := (mkF m 54 #[.val (.int p0), .val (.int p1), .val (.int p2), .val (.int sel), .val (.int xx), .val (.int i1), .val (.int i2), .val (.int i3), .val (.ref b7), .unset, .unset, .unset, .unset] [(.int i1), (.int (0 : Int32)), (.ref b7)])) rfl rfl (hb hby at_54)
        have sz9 := W9.size
        have N9 := Fr.snoc X9 N0 ((by first | omega | exact own_ne (by omega) | exact own_le (by omega)) : n0 ≤ b7)
        have V9 : Arv Z h9 b7 k7 .char (3 : Int32) [(.int (nar .char i1)), (.int (0 : Int32)), (.int (0 : Int32))] (.int (0 : Int32)) := Arv.set Ar8 q8 Sz8 Nn8 Hh8 G8 (fits_nar_char _) W9 0 rfl (Nat.le_of_ble_eq_true rfl)
        rw [own_narc rri1] at V9
        refine go_of (B := (T9.setTop (mkF m 55 #[.val (.int p0), .val (.int p1), .val (.int p2), .val (.int sel), .val (.int xx), .val (.int i1), .val (.int i2), .val (.int i3), .val (.ref b7), .unset, .unset, .unset, .unset] []))) (st9) ?_
        refine go_of (B := (T9.setTop (mkF m 57 #[.val (.int p0), .val (.int p1), .val (.int p2), .val (.int sel), .val (.int xx), .val (.int i1), .val (.int i2), .val (.int i3), .val (.ref b7), .unset, .unset, .unset, .unset] [(.ref b7)]))) (fun _ kk => XS.aload X9.here hx rfl (hb hby at_55) rfl rfl kk) ?_
        refine go_of (B := (T9.setTop (mkF m 58 #[.val (.int p0), .val (.int p1), .val (.int p2), .val (.int sel), .val (.int xx), .val (.int i1), .val (.int i2), .val (.int i3), .val (.ref b7), .unset, .unset, .unset, .unset] [(.int (1 : Int32)), (.ref b7)]))) (fun _ kk => XS.iconst X9.here hx rfl (hb hby at_57) kk) ?_
        refine go_of (B := (T9.setTop (mkF m 60 #[.val (.int p0), .val (.int p1), .val (.int p2), .val (.int sel), .val (.int xx), .val (.int i1), .val (.int i2), .val (.int i3), .val (.ref b7), .unset, .unset, .unset, .unset] [(.int i2), (.int (1 : Int32)), (.ref b7)]))) (fun _ kk => XS.iload X9.here hx rfl (hb hby at_58) rfl kk) ?_
        obtain ⟨cl10, Ar10, q10, Sz10, Nn10, Hh10, G10⟩ := id (V9)
        obtain ⟨T11, h11, X11, e11, W11, st11⟩ := stC X9 hx hZ e9 Ar10 (j := (1 : Int32)) (inb_of Sz10 ⟨by decide, by decide⟩) (g := (mkF m 60 #[.val (.int p0), .val (.int p1), .val (.int p2), .val (.int sel), .val (.int xx), .val (.int i1), .val (.int i2), .val (.int i3), .val (.ref b7), .unset, .unset, .unset, .unset] [(.int i2), (.int (1 : Int32)), (.ref b7)])) rfl rfl (hb hby at_60)
        have sz11 := W11.size
        have N11 := Fr.snoc X11 N9 ((by first | omega | exact own_ne (by omega) | exact own_le (by omega)) : n0 ≤ b7)
        have V11 : Arv Z h11 b7 k7 .char (3 : Int32) [(.int i1), (.int (nar .char i2)), (.int (0 : Int32))] (.int (0 : Int32)) := Arv.set Ar10 q10 Sz10 Nn10 Hh10 G10 (fits_nar_char _) W11 1 rfl (Nat.le_of_ble_eq_true rfl)
        rw [own_narc rri2] at V11
        refine go_of (B := (T11.setTop (mkF m 61 #[.val (.int p0), .val (.int p1), .val (.int p2), .val (.int sel), .val (.int xx), .val (.int i1), .val (.int i2), .val (.int i3), .val (.ref b7), .unset, .unset, .unset, .unset] []))) (st11) ?_
        refine go_of (B := (T11.setTop (mkF m 63 #[.val (.int p0), .val (.int p1), .val (.int p2), .val (.int sel), .val (.int xx), .val (.int i1), .val (.int i2), .val (.int i3), .val (.ref b7), .unset, .unset, .unset, .unset] [(.ref b7)]))) (fun _ kk => XS.aload X11.here hx rfl (hb hby at_61) rfl rfl kk) ?_
        refine go_of (B := (T11.setTop (mkF m 64 #[.val (.int p0), .val (.int p1), .val (.int p2), .val (.int sel), .val (.int xx), .val (.int i1), .val (.int i2), .val (.int i3), .val (.ref b7), .unset, .unset, .unset, .unset] [(.int (2 : Int32)), (.ref b7)]))) (fun _ kk => XS.iconst X11.here hx rfl (hb hby at_63) kk) ?_
        refine go_of (B := (T11.setTop (mkF m 66 #[.val (.int p0), .val (.int p1), .val (.int p2), .val (.int sel), .val (.int xx), .val (.int i1), .val (.int i2), .val (.int i3), .val (.ref b7), .unset, .unset, .unset, .unset] [(.int i3), (.int (2 : Int32)), (.ref b7)]))) (fun _ kk => XS.iload X11.here hx rfl (hb hby at_64) rfl kk) ?_
        obtain ⟨cl12, Ar12, q12, Sz12, Nn12, Hh12, G12⟩ := id (V11)
        obtain ⟨T13, h13, X13, e13, W13, st13⟩ := stC X11 hx hZ e11 Ar12 (j := (2 : Int32)) (inb_of Sz12 ⟨by decide, by decide⟩) (g := (mkF m 66 #[.val (.int p0), .val (.int p1), .val (.int p2), .val (.int sel), .val (.int xx), .val (.int i1), .val (.int i2), .val (.int i3), .val (.ref b7), .unset, .unset, .unset, .unset] [(.int i3), (.int (2 : Int32)), (.ref b7)])) rfl rfl (hb hby at_66)
        have sz13 := W13.size
        have N13 := Fr.snoc X13 N11 ((by first | omega | exact own_ne (by omega) | exact own_le (by omega)) : n0 ≤ b7)
        have V13 : Arv Z h13 b7 k7 .char (3 : Int32) [(.int i1), (.int i2), (.int (nar .char i3))] (.int (0 : Int32)) := Arv.set Ar12 q12 Sz12 Nn12 Hh12 G12 (fits_nar_char _) W13 2 rfl (Nat.le_of_ble_eq_true rfl)
        rw [own_narc rri3] at V13
        refine go_of (B := (T13.setTop (mkF m 67 #[.val (.int p0), .val (.int p1), .val (.int p2), .val (.int sel), .val (.int xx), .val (.int i1), .val (.int i2), .val (.int i3), .val (.ref b7), .unset, .unset, .unset, .unset] []))) (st13) ?_
        obtain ⟨T14, h14, X14, e14, E14, A14, D14, -, st14⟩ := newO X13 hx hZ hown (hw _ (List.mem_of_getElem? (i := 1) rfl)) (hw _ (List.mem_of_getElem? (i := 2) rfl)) (hw _ (List.mem_of_getElem? (i := 3) rfl)) e13 (g := (mkF m 67 #[.val (.int p0), .val (.int p1), .val (.int p2), .val (.int sel), .val (.int xx), .val (.int i1), .val (.int i2), .val (.int i3), .val (.ref b7), .unset, .unset, .unset, .unset] [])) rfl (hb hby at_67) (by decide) (by decide)
        obtain ⟨b14, g14⟩ : ∃ z, z = h13.size := ⟨_, rfl⟩
        rw [← g14] at A14 D14 st14
        have hi14 := own_nlt A14.lt
        have sz14 := E14.1
        have F14_coder : Fld Z h14 b14 "java/lang/String" "coder" "B" (.int (0 : Int32)) := D14 (Or.inr (hw _ (List.mem_of_getElem? (i := 27) rfl))) (ty := .byte) (by decide)
        have F14_value : Fld Z h14 b14 "java/lang/String" "value" "[B" .null := D14 (Or.inr (hw _ (List.mem_of_getElem? (i := 29) rfl))) (ty := (.array .byte)) (by decide)
        refine go_of (B := (T14.setTop (mkF m 70 #[.val (.int p0), .val (.int p1), .val (.int p2), .val (.int sel), .val (.int xx), .val (.int i1), .val (.int i2), .val (.int i3), .val (.ref b7), .unset, .unset, .unset, .unset] [(.ref b14)]))) (st14) ?_
        refine go_of (B := (T14.setTop (mkF m 71 #[.val (.int p0), .val (.int p1), .val (.int p2), .val (.int sel), .val (.int xx), .val (.int i1), .val (.int i2), .val (.int i3), .val (.ref b7), .unset, .unset, .unset, .unset] [(.ref b14), (.ref b14)]))) (fun _ kk => XS.dup X14.here hx rfl (hb hby at_70) rfl rfl kk) ?_
        refine go_of (B := (T14.setTop (mkF m 73 #[.val (.int p0), .val (.int p1), .val (.int p2), .val (.int sel), .val (.int xx), .val (.int i1), .val (.int i2), .val (.int i3), .val (.ref b7), .unset, .unset, .unset, .unset] [(.ref b7), (.ref b14), (.ref b14)]))) (fun _ kk => XS.aload X14.here hx rfl (hb hby at_71) rfl rfl kk) ?_
        have cf_15 := (((((O.ext E7).wr W9 (by first | omega | exact own_ne (by omega) | exact own_le (by omega))).wr W11 (by first | omega | exact own_ne (by omega) | exact own_le (by omega))).wr W13 (by first | omega | exact own_ne (by omega) | exact own_le (by omega))).ext E14)
        have cf_16 := (V13.ext E14)
        obtain ⟨_, _, ⟨T17, L17, k17, n17⟩, -, X17, ⟨Lc17, hQ17, l17, y17, z17⟩, st17⟩ := X14.specialBack hx (y := (⟨"java/lang/String", "<init>", "([C)V"⟩ : MethodName)) rfl hown (mvT hZ (hw _ (List.mem_of_getElem? (i := 4) rfl))) (mvT hZ (hw _ (List.mem_of_getElem? (i := 5) rfl))) (mvT hZ (hw _ (List.mem_of_getElem? (i := 6) rfl))) (by decide) (backOf (W := 1) (str_i1_3 l Z a0 hw [] b14 b7 i1 i2 i3 k7 gC _ _ h14 n0 (by first | omega | exact own_ne (by omega) | exact own_le (by omega)) cf_15 SC hgC A14 F14_value F14_coder (by first | omega | exact own_ne (by omega) | exact own_le (by omega)) cf_16 rri1 rri2 rri3) hZ (hw _ (List.mem_of_getElem? (i := 6) rfl)) (hw _ (List.mem_of_getElem? (i := 3) rfl)) (by decide) (by decide)) (g := (mkF m 73 #[.val (.int p0), .val (.int p1), .val (.int p2), .val (.int sel), .val (.int xx), .val (.int i1), .val (.int i2), .val (.int i3), .val (.ref b7), .unset, .unset, .unset, .unset] [(.ref b7), (.ref b14), (.ref b14)])) rfl (by rw [hml]; rfl) (Steps.refl _) (a := b14) (argsL := [(.ref b7)]) (rest := [(.ref b14)]) (lenOf pd___C_V rfl) rfl (by show 2 * 0 + _ ≤ _; exact Nat.le_of_eq rfl) (hb hby at_73) (fun _ _ => ⟨rfl, e14, (by decide : 2 + 1 ≤ _), (by decide : 7 + 3 ≤ _)⟩)
        dsimp only [Pt.U, Pt.locs, Pt.cells, Pt.slots] at X17 l17 y17 z17 st17 hQ17
        subst l17 y17 z17
        obtain ⟨rfl, N17q, K17, S17⟩ := hQ17
        have N17 := Fr.app N13 N17q
        have sz17 := K17.1
        refine go_tr (B := (T17.setTop (mkF m 76 #[.val (.int p0), .val (.int p1), .val (.int p2), .val (.int sel), .val (.int xx), .val (.int i1), .val (.int i2), .val (.int i3), .val (.ref b7), .unset, .unset, .unset, .unset] [(.ref b14)]))) (st17) ?_
        have cf_18 := (cf_15.keep K17 (allS (by first | omega | exact own_ne (by omega) | exact own_le (by omega)) all0))
        obtain ⟨_, _, ⟨T19, L19, k19, n19⟩, -, X19, ⟨Lc19, hQ19, l19, y19, z19⟩, st19⟩ := Jvm.LawKit.callS X17 hx (y := (⟨"com/example/libpubid/libpubid/id/Digits", "values", "(Ljava/lang/String;)[B"⟩ : MethodName)) hown (mvT hZ (hw _ (List.mem_of_getElem? (i := 30) rfl))) (mvT hZ (hw _ (List.mem_of_getElem? (i := 31) rfl))) (mvT hZ (hw _ (List.mem_of_getElem? (i := 32) rfl))) (mvT hZ (hw _ (List.mem_of_getElem? (i := 33) rfl))) (by decide) (backOf (W := 0) (rm7 l Z a0 hw [] b14 i1 i2 i3 gC gF T17.heap n0 (by first | omega | exact own_ne (by omega) | exact own_le (by omega)) cf_18 SC hgC S17 SF rgF ri1 ri2 ri3) hZ (hw _ (List.mem_of_getElem? (i := 33) rfl)) (hw _ (List.mem_of_getElem? (i := 32) rfl)) (by decide) (by decide)) (g := (mkF m 76 #[.val (.int p0), .val (.int p1), .val (.int p2), .val (.int sel), .val (.int xx), .val (.int i1), .val (.int i2), .val (.int i3), .val (.ref b7), .unset, .unset, .unset, .unset] [(.ref b14)])) rfl (by rw [hml]; rfl) (argsL := [(.ref b14)]) (rest := []) (lenOf pd__Ljava_lang_String___B rfl) rfl (by show 2 * 0 + _ ≤ _; exact Nat.le_of_eq rfl) (hb hby at_76) (fun _ _ => ⟨rfl, rfl, (by decide : 3 + 1 ≤ _), (by decide : 10 + 128 ≤ _)⟩)
        dsimp only [Pt.U, Pt.locs, Pt.cells, Pt.slots] at X19 l19 y19 z19 st19 hQ19
        subst l19 y19 z19
        obtain ⟨b19, rfl, N19q, K19, F19⟩ := hQ19
        have N19 := Fr.app N17 N19q
        have sz19 := K19.1
        refine go_of (B := (T19.setTop (mkF m 79 #[.val (.int p0), .val (.int p1), .val (.int p2), .val (.int sel), .val (.int xx), .val (.int i1), .val (.int i2), .val (.int i3), .val (.ref b7), .unset, .unset, .unset, .unset] [(.ref b19)]))) (st19) ?_
        refine go_of (B := (T19.setTop (mkF m 81 #[.val (.int p0), .val (.int p1), .val (.int p2), .val (.int sel), .val (.int xx), .val (.int i1), .val (.int i2), .val (.int i3), .val (.ref b7), .val (.ref b19), .unset, .unset, .unset] []))) (fun _ kk => XS.astore X19.here hx rfl (hb hby at_79) rfl rfl rfl kk) ?_
        refine go_of (B := (T19.setTop (mkF m 82 #[.val (.int p0), .val (.int p1), .val (.int p2), .val (.int sel), .val (.int xx), .val (.int i1), .val (.int i2), .val (.int i3), .val (.ref b7), .val (.ref b19), .unset, .unset, .unset] [(.int sel)]))) (fun _ kk => XS.iloadN X19.here hx rfl (hb hby at_81) rfl kk) ?_
        refine go_of (B := (T19.setTop (mkF m 84 #[.val (.int p0), .val (.int p1), .val (.int p2), .val (.int sel), .val (.int xx), .val (.int i1), .val (.int i2), .val (.int i3), .val (.ref b7), .val (.ref b19), .unset, .unset, .unset] [(.int (7 : Int32)), (.int sel)]))) (fun _ kk => XS.bipush X19.here hx rfl (hb hby at_82) kk) ?_
        refine go_of (B := (T19.setTop (mkF m 85 #[.val (.int p0), .val (.int p1), .val (.int p2), .val (.int sel), .val (.int xx), .val (.int i1), .val (.int i2), .val (.int i3), .val (.ref b7), .val (.ref b19), .unset, .unset, .unset] [(.int (sel &&& (7 : Int32)))]))) (fun _ kk => XS.iand X19.here hx rfl (hb hby at_84) rfl kk) ?_
        refine go_of (B := (T19.setTop (mkF m 87 #[.val (.int p0), .val (.int p1), .val (.int p2), .val (.int sel), .val (.int xx), .val (.int i1), .val (.int i2), .val (.int i3), .val (.ref b7), .val (.ref b19), .val (.int (sel &&& (7 : Int32))), .unset, .unset] []))) (fun _ kk => XS.istore X19.here hx rfl (hb hby at_85) rfl rfl kk) ?_
        refine go_of (B := (T19.setTop (mkF m 89 #[.val (.int p0), .val (.int p1), .val (.int p2), .val (.int sel), .val (.int xx), .val (.int i1), .val (.int i2), .val (.int i3), .val (.ref b7), .val (.ref b19), .val (.int (sel &&& (7 : Int32))), .unset, .unset] [(.int (sel &&& (7 : Int32)))]))) (fun _ kk => XS.iload X19.here hx rfl (hb hby at_87) rfl kk) ?_
        by_cases hc20 : (sel &&& (7 : Int32)) = (0 : Int32)
        · refine go_of (B := (T19.setTop (mkF m 92 #[.val (.int p0), .val (.int p1), .val (.int p2), .val (.int sel), .val (.int xx), .val (.int i1), .val (.int i2), .val (.int i3), .val (.ref b7), .val (.ref b19), .val (.int (sel &&& (7 : Int32))), .unset, .unset] []))) (fun _ kk => XS.ifNo X19.here hx rfl (hb hby at_89) rfl ((if0 _ _).trans (teq hc20).2) kk) ?_
          refine go_of (B := (T19.setTop (mkF m 94 #[.val (.int p0), .val (.int p1), .val (.int p2), .val (.int sel), .val (.int xx), .val (.int i1), .val (.int i2), .val (.int i3), .val (.ref b7), .val (.ref b19), .val (.int (sel &&& (7 : Int32))), .unset, .unset] [(.int i1)]))) (fun _ kk => XS.iload X19.here hx rfl (hb hby at_92) rfl kk) ?_
          refine go_of (B := (T19.setTop (mkF m 96 #[.val (.int p0), .val (.int p1), .val (.int p2), .val (.int sel), .val (.int xx), .val (.int i1), .val (.int i2), .val (.int i3), .val (.ref b7), .val (.ref b19), .val (.int (sel &&& (7 : Int32))), .val (.int i1), .unset] []))) (fun _ kk => XS.istore X19.here hx rfl (hb hby at_94) rfl rfl kk) ?_
          refine go_of (B := (T19.setTop (mkF m 147 #[.val (.int p0), .val (.int p1), .val (.int p2), .val (.int sel), .val (.int xx), .val (.int i1), .val (.int i2), .val (.int i3), .val (.ref b7), .val (.ref b19), .val (.int (sel &&& (7 : Int32))), .val (.int i1), .unset] []))) (fun _ kk => XS.goto X19.here hx rfl (pc0 := 96) (pc' := 147) rfl (hb hby at_96) (by decide) (by decide) kk) ?_
          refine go_of (B := (T19.setTop (mkF m 149 #[.val (.int p0), .val (.int p1), .val (.int p2), .val (.int sel), .val (.int xx), .val (.int i1), .val (.int i2), .val (.int i3), .val (.ref b7), .val (.ref b19), .val (.int (sel &&& (7 : Int32))), .val (.int i1), .unset] [(.int i1)]))) (fun _ kk => XS.iload X19.here hx rfl (hb hby at_147) rfl kk) ?_
          refine go_of (B := (T19.setTop (mkF m 151 #[.val (.int p0), .val (.int p1), .val (.int p2), .val (.int sel), .val (.int xx), .val (.int i1), .val (.int i2), .val (.int i3), .val (.ref b7), .val (.ref b19), .val (.int (sel &&& (7 : Int32))), .val (.int i1), .unset] [(.int i1), (.int i1)]))) (fun _ kk => XS.iload X19.here hx rfl (hb hby at_149) rfl kk) ?_
          refine go_of (B := (T19.setTop (mkF m 154 #[.val (.int p0), .val (.int p1), .val (.int p2), .val (.int sel), .val (.int xx), .val (.int i1), .val (.int i2), .val (.int i3), .val (.ref b7), .val (.ref b19), .val (.int (sel &&& (7 : Int32))), .val (.int i1), .unset] []))) (fun _ kk => XS.icmpNo X19.here hx rfl (hb hby at_151) rfl (teq (rfl : i1 = i1)).2 kk) ?_
          refine go_of (B := (T19.setTop (mkF m 155 #[.val (.int p0), .val (.int p1), .val (.int p2), .val (.int sel), .val (.int xx), .val (.int i1), .val (.int i2), .val (.int i3), .val (.ref b7), .val (.ref b19), .val (.int (sel &&& (7 : Int32))), .val (.int i1), .unset] [(.int (0 : Int32))]))) (fun _ kk => XS.iconst X19.here hx rfl (hb hby at_154) kk) ?_
          refine go_of (B := (T19.setTop (mkF m 157 #[.val (.int p0), .val (.int p1), .val (.int p2), .val (.int sel), .val (.int xx), .val (.int i1), .val (.int i2), .val (.int i3), .val (.ref b7), .val (.ref b19), .val (.int (sel &&& (7 : Int32))), .val (.int i1), .val (.int (0 : Int32))] []))) (fun _ kk => XS.istore X19.here hx rfl (hb hby at_155) rfl rfl kk) ?_
          refine go_of (B := (T19.setTop (mkF m 189 #[.val (.int p0), .val (.int p1), .val (.int p2), .val (.int sel), .val (.int xx), .val (.int i1), .val (.int i2), .val (.int i3), .val (.ref b7), .val (.ref b19), .val (.int (sel &&& (7 : Int32))), .val (.int i1), .val (.int (0 : Int32))] []))) (fun _ kk => XS.goto X19.here hx rfl (pc0 := 157) (pc' := 189) rfl (hb hby at_157) (by decide) (by decide) kk) ?_
          refine go_of (B := (T19.setTop (mkF m 191 #[.val (.int p0), .val (.int p1), .val (.int p2), .val (.int sel), .val (.int xx), .val (.int i1), .val (.int i2), .val (.int i3), .val (.ref b7), .val (.ref b19), .val (.int (sel &&& (7 : Int32))), .val (.int i1), .val (.int (0 : Int32))] [(.ref b19)]))) (fun _ kk => XS.aload X19.here hx rfl (hb hby at_189) rfl rfl kk) ?_
          refine go_of (B := (T19.setTop (mkF m 193 #[.val (.int p0), .val (.int p1), .val (.int p2), .val (.int sel), .val (.int xx), .val (.int i1), .val (.int i2), .val (.int i3), .val (.ref b7), .val (.ref b19), .val (.int (sel &&& (7 : Int32))), .val (.int i1), .val (.int (0 : Int32))] [(.int i1), (.ref b19)]))) (fun _ kk => XS.iload X19.here hx rfl (hb hby at_191) rfl kk) ?_
          obtain ⟨_, _, ⟨T21, L21, k21, n21⟩, -, X21, ⟨Lc21, hQ21, l21, y21, z21⟩, st21⟩ := Jvm.LawKit.callS X19 hx (y := (⟨"com/example/libpubid/libpubid/id/Digits", "value", "([BC)I"⟩ : MethodName)) hown (mvT hZ (hw _ (List.mem_of_getElem? (i := 70) rfl))) (mvT hZ (hw _ (List.mem_of_getElem? (i := 71) rfl))) (mvT hZ (hw _ (List.mem_of_getElem? (i := 32) rfl))) (mvT hZ (hw _ (List.mem_of_getElem? (i := 72) rfl))) (by decide) (backOf (W := 0) (rm16 l Z a0 hw [] b19 i1 (own_tab i1 i2 i3) T19.heap n0 (by first | omega | exact own_ne (by omega) | exact own_le (by omega)) F19 ri1.1) hZ (hw _ (List.mem_of_getElem? (i := 72) rfl)) (hw _ (List.mem_of_getElem? (i := 32) rfl)) (by decide) (by decide)) (g := (mkF m 193 #[.val (.int p0), .val (.int p1), .val (.int p2), .val (.int sel), .val (.int xx), .val (.int i1), .val (.int i2), .val (.int i3), .val (.ref b7), .val (.ref b19), .val (.int (sel &&& (7 : Int32))), .val (.int i1), .val (.int (0 : Int32))] [(.int i1), (.ref b19)])) rfl (by rw [hml]; rfl) (argsL := [(.ref b19), (.int i1)]) (rest := []) (lenOf pd___BC_I rfl) rfl (by show 2 * 0 + _ ≤ _; exact Nat.le_of_eq rfl) (hb hby at_193) (fun _ _ => ⟨rfl, rfl, (by decide : 4 + 0 ≤ _), (by decide : 138 + 0 ≤ _)⟩)
          dsimp only [Pt.U, Pt.locs, Pt.cells, Pt.slots] at X21 l21 y21 z21 st21 hQ21
          subst l21 y21 z21
          obtain ⟨rfl, N21q, e21⟩ := hQ21
          have N21 := Fr.app N19 N21q
          refine go_of (B := (T21.setTop (mkF m 196 #[.val (.int p0), .val (.int p1), .val (.int p2), .val (.int sel), .val (.int xx), .val (.int i1), .val (.int i2), .val (.int i3), .val (.ref b7), .val (.ref b19), .val (.int (sel &&& (7 : Int32))), .val (.int i1), .val (.int (0 : Int32))] [(.int (own_val (own_tab i1 i2 i3) i1))]))) (st21) ?_
          refine go_of (B := (T21.setTop (mkF m 198 #[.val (.int p0), .val (.int p1), .val (.int p2), .val (.int sel), .val (.int xx), .val (.int i1), .val (.int i2), .val (.int i3), .val (.ref b7), .val (.ref b19), .val (.int (sel &&& (7 : Int32))), .val (.int i1), .val (.int (0 : Int32))] [(.int (0 : Int32)), (.int (own_val (own_tab i1 i2 i3) i1))]))) (fun _ kk => XS.iload X21.here hx rfl (hb hby at_196) rfl kk) ?_
          refine go_of (B := (T21.setTop (mkF m 201 #[.val (.int p0), .val (.int p1), .val (.int p2), .val (.int sel), .val (.int xx), .val (.int i1), .val (.int i2), .val (.int i3), .val (.ref b7), .val (.ref b19), .val (.int (sel &&& (7 : Int32))), .val (.int i1), .val (.int (0 : Int32))] []))) (fun _ kk => XS.icmpNo X21.here hx rfl (hb hby at_198) rfl (teq (by rw [own_valtab _ _ _ _ ri1 ri2 ri3 ri1.1]; first | (simp_all; done) | (simp [hc4, hc5, hc6]; done) | grind : (own_val (own_tab i1 i2 i3) i1) = (0 : Int32))).2 kk) ?_
          refine go_of (B := (T21.setTop (mkF m 202 #[.val (.int p0), .val (.int p1), .val (.int p2), .val (.int sel), .val (.int xx), .val (.int i1), .val (.int i2), .val (.int i3), .val (.ref b7), .val (.ref b19), .val (.int (sel &&& (7 : Int32))), .val (.int i1), .val (.int (0 : Int32))] [(.int (1 : Int32))]))) (fun _ kk => XS.iconst X21.here hx rfl (hb hby at_201) kk) ?_
          refine go_of (B := (T21.setTop (mkF m 206 #[.val (.int p0), .val (.int p1), .val (.int p2), .val (.int sel), .val (.int xx), .val (.int i1), .val (.int i2), .val (.int i3), .val (.ref b7), .val (.ref b19), .val (.int (sel &&& (7 : Int32))), .val (.int i1), .val (.int (0 : Int32))] [(.int (1 : Int32))]))) (fun _ kk => XS.goto X21.here hx rfl (pc0 := 202) (pc' := 206) rfl (hb hby at_202) (by decide) (by decide) kk) ?_
          refine go_end X21 (v := some (.int (nar .boolean (1 : Int32)))) (fun h => by rw [Bd.returns] at h; cases h) Bd.notSynchronized (by decide) (by decide) (Q := (Q_rm0 Z p0 p1 p2 sel xx gC gF h0 n0)) ?_ (fun fs hr => retN X21 hx (t := .boolean) Bd.returns (by simp) (hb hby at_206) hr)
          show (fun (v : Option Value) (h : Heap) (L : List Loc) => v = some (.int 1) ∧ Fr n0 L) (some (.int (nar .boolean (1 : Int32)))) T21.heap _
          rw [e21]
          exact ⟨rfl, N21⟩
        · refine go_of (B := (T19.setTop (mkF m 99 #[.val (.int p0), .val (.int p1), .val (.int p2), .val (.int sel), .val (.int xx), .val (.int i1), .val (.int i2), .val (.int i3), .val (.ref b7), .val (.ref b19), .val (.int (sel &&& (7 : Int32))), .unset, .unset] []))) (fun _ kk => XS.ifYes X19.here hx rfl (pc0 := 89) (pc' := 99) rfl (hb hby at_89) rfl ((if0 _ _).trans (feq hc20).2) (by decide) (by decide) kk) ?_
          refine go_of (B := (T19.setTop (mkF m 101 #[.val (.int p0), .val (.int p1), .val (.int p2), .val (.int sel), .val (.int xx), .val (.int i1), .val (.int i2), .val (.int i3), .val (.ref b7), .val (.ref b19), .val (.int (sel &&& (7 : Int32))), .unset, .unset] [(.int (sel &&& (7 : Int32)))]))) (fun _ kk => XS.iload X19.here hx rfl (hb hby at_99) rfl kk) ?_
          refine go_of (B := (T19.setTop (mkF m 102 #[.val (.int p0), .val (.int p1), .val (.int p2), .val (.int sel), .val (.int xx), .val (.int i1), .val (.int i2), .val (.int i3), .val (.ref b7), .val (.ref b19), .val (.int (sel &&& (7 : Int32))), .unset, .unset] [(.int (1 : Int32)), (.int (sel &&& (7 : Int32)))]))) (fun _ kk => XS.iconst X19.here hx rfl (hb hby at_101) kk) ?_
          by_cases hc22 : (sel &&& (7 : Int32)) = (1 : Int32)
          · refine go_of (B := (T19.setTop (mkF m 105 #[.val (.int p0), .val (.int p1), .val (.int p2), .val (.int sel), .val (.int xx), .val (.int i1), .val (.int i2), .val (.int i3), .val (.ref b7), .val (.ref b19), .val (.int (sel &&& (7 : Int32))), .unset, .unset] []))) (fun _ kk => XS.icmpNo X19.here hx rfl (hb hby at_102) rfl (teq hc22).2 kk) ?_
            refine go_of (B := (T19.setTop (mkF m 107 #[.val (.int p0), .val (.int p1), .val (.int p2), .val (.int sel), .val (.int xx), .val (.int i1), .val (.int i2), .val (.int i3), .val (.ref b7), .val (.ref b19), .val (.int (sel &&& (7 : Int32))), .unset, .unset] [(.int i2)]))) (fun _ kk => XS.iload X19.here hx rfl (hb hby at_105) rfl kk) ?_
            refine go_of (B := (T19.setTop (mkF m 109 #[.val (.int p0), .val (.int p1), .val (.int p2), .val (.int sel), .val (.int xx), .val (.int i1), .val (.int i2), .val (.int i3), .val (.ref b7), .val (.ref b19), .val (.int (sel &&& (7 : Int32))), .val (.int i2), .unset] []))) (fun _ kk => XS.istore X19.here hx rfl (hb hby at_107) rfl rfl kk) ?_
            refine go_of (B := (T19.setTop (mkF m 147 #[.val (.int p0), .val (.int p1), .val (.int p2), .val (.int sel), .val (.int xx), .val (.int i1), .val (.int i2), .val (.int i3), .val (.ref b7), .val (.ref b19), .val (.int (sel &&& (7 : Int32))), .val (.int i2), .unset] []))) (fun _ kk => XS.goto X19.here hx rfl (pc0 := 109) (pc' := 147) rfl (hb hby at_109) (by decide) (by decide) kk) ?_
            refine go_of (B := (T19.setTop (mkF m 149 #[.val (.int p0), .val (.int p1), .val (.int p2), .val (.int sel), .val (.int xx), .val (.int i1), .val (.int i2), .val (.int i3), .val (.ref b7), .val (.ref b19), .val (.int (sel &&& (7 : Int32))), .val (.int i2), .unset] [(.int i2)]))) (fun _ kk => XS.iload X19.here hx rfl (hb hby at_147) rfl kk) ?_
            refine go_of (B := (T19.setTop (mkF m 151 #[.val (.int p0), .val (.int p1), .val (.int p2), .val (.int sel), .val (.int xx), .val (.int i1), .val (.int i2), .val (.int i3), .val (.ref b7), .val (.ref b19), .val (.int (sel &&& (7 : Int32))), .val (.int i2), .unset] [(.int i1), (.int i2)]))) (fun _ kk => XS.iload X19.here hx rfl (hb hby at_149) rfl kk) ?_
            by_cases hc23 : i2 = i1
            · refine go_of (B := (T19.setTop (mkF m 154 #[.val (.int p0), .val (.int p1), .val (.int p2), .val (.int sel), .val (.int xx), .val (.int i1), .val (.int i2), .val (.int i3), .val (.ref b7), .val (.ref b19), .val (.int (sel &&& (7 : Int32))), .val (.int i2), .unset] []))) (fun _ kk => XS.icmpNo X19.here hx rfl (hb hby at_151) rfl (teq hc23).2 kk) ?_
              refine go_of (B := (T19.setTop (mkF m 155 #[.val (.int p0), .val (.int p1), .val (.int p2), .val (.int sel), .val (.int xx), .val (.int i1), .val (.int i2), .val (.int i3), .val (.ref b7), .val (.ref b19), .val (.int (sel &&& (7 : Int32))), .val (.int i2), .unset] [(.int (0 : Int32))]))) (fun _ kk => XS.iconst X19.here hx rfl (hb hby at_154) kk) ?_
              refine go_of (B := (T19.setTop (mkF m 157 #[.val (.int p0), .val (.int p1), .val (.int p2), .val (.int sel), .val (.int xx), .val (.int i1), .val (.int i2), .val (.int i3), .val (.ref b7), .val (.ref b19), .val (.int (sel &&& (7 : Int32))), .val (.int i2), .val (.int (0 : Int32))] []))) (fun _ kk => XS.istore X19.here hx rfl (hb hby at_155) rfl rfl kk) ?_
              refine go_of (B := (T19.setTop (mkF m 189 #[.val (.int p0), .val (.int p1), .val (.int p2), .val (.int sel), .val (.int xx), .val (.int i1), .val (.int i2), .val (.int i3), .val (.ref b7), .val (.ref b19), .val (.int (sel &&& (7 : Int32))), .val (.int i2), .val (.int (0 : Int32))] []))) (fun _ kk => XS.goto X19.here hx rfl (pc0 := 157) (pc' := 189) rfl (hb hby at_157) (by decide) (by decide) kk) ?_
              refine go_of (B := (T19.setTop (mkF m 191 #[.val (.int p0), .val (.int p1), .val (.int p2), .val (.int sel), .val (.int xx), .val (.int i1), .val (.int i2), .val (.int i3), .val (.ref b7), .val (.ref b19), .val (.int (sel &&& (7 : Int32))), .val (.int i2), .val (.int (0 : Int32))] [(.ref b19)]))) (fun _ kk => XS.aload X19.here hx rfl (hb hby at_189) rfl rfl kk) ?_
              refine go_of (B := (T19.setTop (mkF m 193 #[.val (.int p0), .val (.int p1), .val (.int p2), .val (.int sel), .val (.int xx), .val (.int i1), .val (.int i2), .val (.int i3), .val (.ref b7), .val (.ref b19), .val (.int (sel &&& (7 : Int32))), .val (.int i2), .val (.int (0 : Int32))] [(.int i2), (.ref b19)]))) (fun _ kk => XS.iload X19.here hx rfl (hb hby at_191) rfl kk) ?_
              obtain ⟨_, _, ⟨T24, L24, k24, n24⟩, -, X24, ⟨Lc24, hQ24, l24, y24, z24⟩, st24⟩ := Jvm.LawKit.callS X19 hx (y := (⟨"com/example/libpubid/libpubid/id/Digits", "value", "([BC)I"⟩ : MethodName)) hown (mvT hZ (hw _ (List.mem_of_getElem? (i := 70) rfl))) (mvT hZ (hw _ (List.mem_of_getElem? (i := 71) rfl))) (mvT hZ (hw _ (List.mem_of_getElem? (i := 32) rfl))) (mvT hZ (hw _ (List.mem_of_getElem? (i := 72) rfl))) (by decide) (backOf (W := 0) (rm16 l Z a0 hw [] b19 i2 (own_tab i1 i2 i3) T19.heap n0 (by first | omega | exact own_ne (by omega) | exact own_le (by omega)) F19 ri2.1) hZ (hw _ (List.mem_of_getElem? (i := 72) rfl)) (hw _ (List.mem_of_getElem? (i := 32) rfl)) (by decide) (by decide)) (g := (mkF m 193 #[.val (.int p0), .val (.int p1), .val (.int p2), .val (.int sel), .val (.int xx), .val (.int i1), .val (.int i2), .val (.int i3), .val (.ref b7), .val (.ref b19), .val (.int (sel &&& (7 : Int32))), .val (.int i2), .val (.int (0 : Int32))] [(.int i2), (.ref b19)])) rfl (by rw [hml]; rfl) (argsL := [(.ref b19), (.int i2)]) (rest := []) (lenOf pd___BC_I rfl) rfl (by show 2 * 0 + _ ≤ _; exact Nat.le_of_eq rfl) (hb hby at_193) (fun _ _ => ⟨rfl, rfl, (by decide : 4 + 0 ≤ _), (by decide : 138 + 0 ≤ _)⟩)
              dsimp only [Pt.U, Pt.locs, Pt.cells, Pt.slots] at X24 l24 y24 z24 st24 hQ24
              subst l24 y24 z24
              obtain ⟨rfl, N24q, e24⟩ := hQ24
              have N24 := Fr.app N19 N24q
              refine go_of (B := (T24.setTop (mkF m 196 #[.val (.int p0), .val (.int p1), .val (.int p2), .val (.int sel), .val (.int xx), .val (.int i1), .val (.int i2), .val (.int i3), .val (.ref b7), .val (.ref b19), .val (.int (sel &&& (7 : Int32))), .val (.int i2), .val (.int (0 : Int32))] [(.int (own_val (own_tab i1 i2 i3) i2))]))) (st24) ?_
              refine go_of (B := (T24.setTop (mkF m 198 #[.val (.int p0), .val (.int p1), .val (.int p2), .val (.int sel), .val (.int xx), .val (.int i1), .val (.int i2), .val (.int i3), .val (.ref b7), .val (.ref b19), .val (.int (sel &&& (7 : Int32))), .val (.int i2), .val (.int (0 : Int32))] [(.int (0 : Int32)), (.int (own_val (own_tab i1 i2 i3) i2))]))) (fun _ kk => XS.iload X24.here hx rfl (hb hby at_196) rfl kk) ?_
              refine go_of (B := (T24.setTop (mkF m 201 #[.val (.int p0), .val (.int p1), .val (.int p2), .val (.int sel), .val (.int xx), .val (.int i1), .val (.int i2), .val (.int i3), .val (.ref b7), .val (.ref b19), .val (.int (sel &&& (7 : Int32))), .val (.int i2), .val (.int (0 : Int32))] []))) (fun _ kk => XS.icmpNo X24.here hx rfl (hb hby at_198) rfl (teq (by rw [own_valtab _ _ _ _ ri1 ri2 ri3 ri2.1]; first | (simp_all; done) | (simp [hc4, hc5, hc6, hc23]; done) | grind : (own_val (own_tab i1 i2 i3) i2) = (0 : Int32))).2 kk) ?_
              refine go_of (B := (T24.setTop (mkF m 202 #[.val (.int p0), .val (.int p1), .val (.int p2), .val (.int sel), .val (.int xx), .val (.int i1), .val (.int i2), .val (.int i3), .val (.ref b7), .val (.ref b19), .val (.int (sel &&& (7 : Int32))), .val (.int i2), .val (.int (0 : Int32))] [(.int (1 : Int32))]))) (fun _ kk => XS.iconst X24.here hx rfl (hb hby at_201) kk) ?_
              refine go_of (B := (T24.setTop (mkF m 206 #[.val (.int p0), .val (.int p1), .val (.int p2), .val (.int sel), .val (.int xx), .val (.int i1), .val (.int i2), .val (.int i3), .val (.ref b7), .val (.ref b19), .val (.int (sel &&& (7 : Int32))), .val (.int i2), .val (.int (0 : Int32))] [(.int (1 : Int32))]))) (fun _ kk => XS.goto X24.here hx rfl (pc0 := 202) (pc' := 206) rfl (hb hby at_202) (by decide) (by decide) kk) ?_
              refine go_end X24 (v := some (.int (nar .boolean (1 : Int32)))) (fun h => by rw [Bd.returns] at h; cases h) Bd.notSynchronized (by decide) (by decide) (Q := (Q_rm0 Z p0 p1 p2 sel xx gC gF h0 n0)) ?_ (fun fs hr => retN X24 hx (t := .boolean) Bd.returns (by simp) (hb hby at_206) hr)
              show (fun (v : Option Value) (h : Heap) (L : List Loc) => v = some (.int 1) ∧ Fr n0 L) (some (.int (nar .boolean (1 : Int32)))) T24.heap _
              rw [e24]
              exact ⟨rfl, N24⟩
            · refine go_of (B := (T19.setTop (mkF m 160 #[.val (.int p0), .val (.int p1), .val (.int p2), .val (.int sel), .val (.int xx), .val (.int i1), .val (.int i2), .val (.int i3), .val (.ref b7), .val (.ref b19), .val (.int (sel &&& (7 : Int32))), .val (.int i2), .unset] []))) (fun _ kk => XS.icmpYes X19.here hx rfl (pc0 := 151) (pc' := 160) rfl (hb hby at_151) rfl (feq hc23).2 (by decide) (by decide) kk) ?_
              refine go_of (B := (T19.setTop (mkF m 162 #[.val (.int p0), .val (.int p1), .val (.int p2), .val (.int sel), .val (.int xx), .val (.int i1), .val (.int i2), .val (.int i3), .val (.ref b7), .val (.ref b19), .val (.int (sel &&& (7 : Int32))), .val (.int i2), .unset] [(.int i2)]))) (fun _ kk => XS.iload X19.here hx rfl (hb hby at_160) rfl kk) ?_
              refine go_of (B := (T19.setTop (mkF m 164 #[.val (.int p0), .val (.int p1), .val (.int p2), .val (.int sel), .val (.int xx), .val (.int i1), .val (.int i2), .val (.int i3), .val (.ref b7), .val (.ref b19), .val (.int (sel &&& (7 : Int32))), .val (.int i2), .unset] [(.int i2), (.int i2)]))) (fun _ kk => XS.iload X19.here hx rfl (hb hby at_162) rfl kk) ?_
              refine go_of (B := (T19.setTop (mkF m 167 #[.val (.int p0), .val (.int p1), .val (.int p2), .val (.int sel), .val (.int xx), .val (.int i1), .val (.int i2), .val (.int i3), .val (.ref b7), .val (.ref b19), .val (.int (sel &&& (7 : Int32))), .val (.int i2), .unset] []))) (fun _ kk => XS.icmpNo X19.here hx rfl (hb hby at_164) rfl (teq (rfl : i2 = i2)).2 kk) ?_
              refine go_of (B := (T19.setTop (mkF m 168 #[.val (.int p0), .val (.int p1), .val (.int p2), .val (.int sel), .val (.int xx), .val (.int i1), .val (.int i2), .val (.int i3), .val (.ref b7), .val (.ref b19), .val (.int (sel &&& (7 : Int32))), .val (.int i2), .unset] [(.int (1 : Int32))]))) (fun _ kk => XS.iconst X19.here hx rfl (hb hby at_167) kk) ?_
              refine go_of (B := (T19.setTop (mkF m 170 #[.val (.int p0), .val (.int p1), .val (.int p2), .val (.int sel), .val (.int xx), .val (.int i1), .val (.int i2), .val (.int i3), .val (.ref b7), .val (.ref b19), .val (.int (sel &&& (7 : Int32))), .val (.int i2), .val (.int (1 : Int32))] []))) (fun _ kk => XS.istore X19.here hx rfl (hb hby at_168) rfl rfl kk) ?_
              refine go_of (B := (T19.setTop (mkF m 189 #[.val (.int p0), .val (.int p1), .val (.int p2), .val (.int sel), .val (.int xx), .val (.int i1), .val (.int i2), .val (.int i3), .val (.ref b7), .val (.ref b19), .val (.int (sel &&& (7 : Int32))), .val (.int i2), .val (.int (1 : Int32))] []))) (fun _ kk => XS.goto X19.here hx rfl (pc0 := 170) (pc' := 189) rfl (hb hby at_170) (by decide) (by decide) kk) ?_
              refine go_of (B := (T19.setTop (mkF m 191 #[.val (.int p0), .val (.int p1), .val (.int p2), .val (.int sel), .val (.int xx), .val (.int i1), .val (.int i2), .val (.int i3), .val (.ref b7), .val (.ref b19), .val (.int (sel &&& (7 : Int32))), .val (.int i2), .val (.int (1 : Int32))] [(.ref b19)]))) (fun _ kk => XS.aload X19.here hx rfl (hb hby at_189) rfl rfl kk) ?_
              refine go_of (B := (T19.setTop (mkF m 193 #[.val (.int p0), .val (.int p1), .val (.int p2), .val (.int sel), .val (.int xx), .val (.int i1), .val (.int i2), .val (.int i3), .val (.ref b7), .val (.ref b19), .val (.int (sel &&& (7 : Int32))), .val (.int i2), .val (.int (1 : Int32))] [(.int i2), (.ref b19)]))) (fun _ kk => XS.iload X19.here hx rfl (hb hby at_191) rfl kk) ?_
              obtain ⟨_, _, ⟨T25, L25, k25, n25⟩, -, X25, ⟨Lc25, hQ25, l25, y25, z25⟩, st25⟩ := Jvm.LawKit.callS X19 hx (y := (⟨"com/example/libpubid/libpubid/id/Digits", "value", "([BC)I"⟩ : MethodName)) hown (mvT hZ (hw _ (List.mem_of_getElem? (i := 70) rfl))) (mvT hZ (hw _ (List.mem_of_getElem? (i := 71) rfl))) (mvT hZ (hw _ (List.mem_of_getElem? (i := 32) rfl))) (mvT hZ (hw _ (List.mem_of_getElem? (i := 72) rfl))) (by decide) (backOf (W := 0) (rm16 l Z a0 hw [] b19 i2 (own_tab i1 i2 i3) T19.heap n0 (by first | omega | exact own_ne (by omega) | exact own_le (by omega)) F19 ri2.1) hZ (hw _ (List.mem_of_getElem? (i := 72) rfl)) (hw _ (List.mem_of_getElem? (i := 32) rfl)) (by decide) (by decide)) (g := (mkF m 193 #[.val (.int p0), .val (.int p1), .val (.int p2), .val (.int sel), .val (.int xx), .val (.int i1), .val (.int i2), .val (.int i3), .val (.ref b7), .val (.ref b19), .val (.int (sel &&& (7 : Int32))), .val (.int i2), .val (.int (1 : Int32))] [(.int i2), (.ref b19)])) rfl (by rw [hml]; rfl) (argsL := [(.ref b19), (.int i2)]) (rest := []) (lenOf pd___BC_I rfl) rfl (by show 2 * 0 + _ ≤ _; exact Nat.le_of_eq rfl) (hb hby at_193) (fun _ _ => ⟨rfl, rfl, (by decide : 4 + 0 ≤ _), (by decide : 138 + 0 ≤ _)⟩)
              dsimp only [Pt.U, Pt.locs, Pt.cells, Pt.slots] at X25 l25 y25 z25 st25 hQ25
              subst l25 y25 z25
              obtain ⟨rfl, N25q, e25⟩ := hQ25
              have N25 := Fr.app N19 N25q
              refine go_of (B := (T25.setTop (mkF m 196 #[.val (.int p0), .val (.int p1), .val (.int p2), .val (.int sel), .val (.int xx), .val (.int i1), .val (.int i2), .val (.int i3), .val (.ref b7), .val (.ref b19), .val (.int (sel &&& (7 : Int32))), .val (.int i2), .val (.int (1 : Int32))] [(.int (own_val (own_tab i1 i2 i3) i2))]))) (st25) ?_
              refine go_of (B := (T25.setTop (mkF m 198 #[.val (.int p0), .val (.int p1), .val (.int p2), .val (.int sel), .val (.int xx), .val (.int i1), .val (.int i2), .val (.int i3), .val (.ref b7), .val (.ref b19), .val (.int (sel &&& (7 : Int32))), .val (.int i2), .val (.int (1 : Int32))] [(.int (1 : Int32)), (.int (own_val (own_tab i1 i2 i3) i2))]))) (fun _ kk => XS.iload X25.here hx rfl (hb hby at_196) rfl kk) ?_
              refine go_of (B := (T25.setTop (mkF m 201 #[.val (.int p0), .val (.int p1), .val (.int p2), .val (.int sel), .val (.int xx), .val (.int i1), .val (.int i2), .val (.int i3), .val (.ref b7), .val (.ref b19), .val (.int (sel &&& (7 : Int32))), .val (.int i2), .val (.int (1 : Int32))] []))) (fun _ kk => XS.icmpNo X25.here hx rfl (hb hby at_198) rfl (teq (by rw [own_valtab _ _ _ _ ri1 ri2 ri3 ri2.1]; first | (simp_all; done) | (simp [hc4, hc5, hc6, hc23]; done) | grind : (own_val (own_tab i1 i2 i3) i2) = (1 : Int32))).2 kk) ?_
              refine go_of (B := (T25.setTop (mkF m 202 #[.val (.int p0), .val (.int p1), .val (.int p2), .val (.int sel), .val (.int xx), .val (.int i1), .val (.int i2), .val (.int i3), .val (.ref b7), .val (.ref b19), .val (.int (sel &&& (7 : Int32))), .val (.int i2), .val (.int (1 : Int32))] [(.int (1 : Int32))]))) (fun _ kk => XS.iconst X25.here hx rfl (hb hby at_201) kk) ?_
              refine go_of (B := (T25.setTop (mkF m 206 #[.val (.int p0), .val (.int p1), .val (.int p2), .val (.int sel), .val (.int xx), .val (.int i1), .val (.int i2), .val (.int i3), .val (.ref b7), .val (.ref b19), .val (.int (sel &&& (7 : Int32))), .val (.int i2), .val (.int (1 : Int32))] [(.int (1 : Int32))]))) (fun _ kk => XS.goto X25.here hx rfl (pc0 := 202) (pc' := 206) rfl (hb hby at_202) (by decide) (by decide) kk) ?_
              refine go_end X25 (v := some (.int (nar .boolean (1 : Int32)))) (fun h => by rw [Bd.returns] at h; cases h) Bd.notSynchronized (by decide) (by decide) (Q := (Q_rm0 Z p0 p1 p2 sel xx gC gF h0 n0)) ?_ (fun fs hr => retN X25 hx (t := .boolean) Bd.returns (by simp) (hb hby at_206) hr)
              show (fun (v : Option Value) (h : Heap) (L : List Loc) => v = some (.int 1) ∧ Fr n0 L) (some (.int (nar .boolean (1 : Int32)))) T25.heap _
              rw [e25]
              exact ⟨rfl, N25⟩
          · refine go_of (B := (T19.setTop (mkF m 112 #[.val (.int p0), .val (.int p1), .val (.int p2), .val (.int sel), .val (.int xx), .val (.int i1), .val (.int i2), .val (.int i3), .val (.ref b7), .val (.ref b19), .val (.int (sel &&& (7 : Int32))), .unset, .unset] []))) (fun _ kk => XS.icmpYes X19.here hx rfl (pc0 := 102) (pc' := 112) rfl (hb hby at_102) rfl (feq hc22).2 (by decide) (by decide) kk) ?_
            refine go_of (B := (T19.setTop (mkF m 114 #[.val (.int p0), .val (.int p1), .val (.int p2), .val (.int sel), .val (.int xx), .val (.int i1), .val (.int i2), .val (.int i3), .val (.ref b7), .val (.ref b19), .val (.int (sel &&& (7 : Int32))), .unset, .unset] [(.int (sel &&& (7 : Int32)))]))) (fun _ kk => XS.iload X19.here hx rfl (hb hby at_112) rfl kk) ?_
            refine go_of (B := (T19.setTop (mkF m 115 #[.val (.int p0), .val (.int p1), .val (.int p2), .val (.int sel), .val (.int xx), .val (.int i1), .val (.int i2), .val (.int i3), .val (.ref b7), .val (.ref b19), .val (.int (sel &&& (7 : Int32))), .unset, .unset] [(.int (2 : Int32)), (.int (sel &&& (7 : Int32)))]))) (fun _ kk => XS.iconst X19.here hx rfl (hb hby at_114) kk) ?_
            by_cases hc26 : (sel &&& (7 : Int32)) = (2 : Int32)
            · refine go_of (B := (T19.setTop (mkF m 118 #[.val (.int p0), .val (.int p1), .val (.int p2), .val (.int sel), .val (.int xx), .val (.int i1), .val (.int i2), .val (.int i3), .val (.ref b7), .val (.ref b19), .val (.int (sel &&& (7 : Int32))), .unset, .unset] []))) (fun _ kk => XS.icmpNo X19.here hx rfl (hb hby at_115) rfl (teq hc26).2 kk) ?_
              refine go_of (B := (T19.setTop (mkF m 120 #[.val (.int p0), .val (.int p1), .val (.int p2), .val (.int sel), .val (.int xx), .val (.int i1), .val (.int i2), .val (.int i3), .val (.ref b7), .val (.ref b19), .val (.int (sel &&& (7 : Int32))), .unset, .unset] [(.int i3)]))) (fun _ kk => XS.iload X19.here hx rfl (hb hby at_118) rfl kk) ?_
              refine go_of (B := (T19.setTop (mkF m 122 #[.val (.int p0), .val (.int p1), .val (.int p2), .val (.int sel), .val (.int xx), .val (.int i1), .val (.int i2), .val (.int i3), .val (.ref b7), .val (.ref b19), .val (.int (sel &&& (7 : Int32))), .val (.int i3), .unset] []))) (fun _ kk => XS.istore X19.here hx rfl (hb hby at_120) rfl rfl kk) ?_
              refine go_of (B := (T19.setTop (mkF m 147 #[.val (.int p0), .val (.int p1), .val (.int p2), .val (.int sel), .val (.int xx), .val (.int i1), .val (.int i2), .val (.int i3), .val (.ref b7), .val (.ref b19), .val (.int (sel &&& (7 : Int32))), .val (.int i3), .unset] []))) (fun _ kk => XS.goto X19.here hx rfl (pc0 := 122) (pc' := 147) rfl (hb hby at_122) (by decide) (by decide) kk) ?_
              refine go_of (B := (T19.setTop (mkF m 149 #[.val (.int p0), .val (.int p1), .val (.int p2), .val (.int sel), .val (.int xx), .val (.int i1), .val (.int i2), .val (.int i3), .val (.ref b7), .val (.ref b19), .val (.int (sel &&& (7 : Int32))), .val (.int i3), .unset] [(.int i3)]))) (fun _ kk => XS.iload X19.here hx rfl (hb hby at_147) rfl kk) ?_
              refine go_of (B := (T19.setTop (mkF m 151 #[.val (.int p0), .val (.int p1), .val (.int p2), .val (.int sel), .val (.int xx), .val (.int i1), .val (.int i2), .val (.int i3), .val (.ref b7), .val (.ref b19), .val (.int (sel &&& (7 : Int32))), .val (.int i3), .unset] [(.int i1), (.int i3)]))) (fun _ kk => XS.iload X19.here hx rfl (hb hby at_149) rfl kk) ?_
              by_cases hc27 : i3 = i1
              · refine go_of (B := (T19.setTop (mkF m 154 #[.val (.int p0), .val (.int p1), .val (.int p2), .val (.int sel), .val (.int xx), .val (.int i1), .val (.int i2), .val (.int i3), .val (.ref b7), .val (.ref b19), .val (.int (sel &&& (7 : Int32))), .val (.int i3), .unset] []))) (fun _ kk => XS.icmpNo X19.here hx rfl (hb hby at_151) rfl (teq hc27).2 kk) ?_
                refine go_of (B := (T19.setTop (mkF m 155 #[.val (.int p0), .val (.int p1), .val (.int p2), .val (.int sel), .val (.int xx), .val (.int i1), .val (.int i2), .val (.int i3), .val (.ref b7), .val (.ref b19), .val (.int (sel &&& (7 : Int32))), .val (.int i3), .unset] [(.int (0 : Int32))]))) (fun _ kk => XS.iconst X19.here hx rfl (hb hby at_154) kk) ?_
                refine go_of (B := (T19.setTop (mkF m 157 #[.val (.int p0), .val (.int p1), .val (.int p2), .val (.int sel), .val (.int xx), .val (.int i1), .val (.int i2), .val (.int i3), .val (.ref b7), .val (.ref b19), .val (.int (sel &&& (7 : Int32))), .val (.int i3), .val (.int (0 : Int32))] []))) (fun _ kk => XS.istore X19.here hx rfl (hb hby at_155) rfl rfl kk) ?_
                refine go_of (B := (T19.setTop (mkF m 189 #[.val (.int p0), .val (.int p1), .val (.int p2), .val (.int sel), .val (.int xx), .val (.int i1), .val (.int i2), .val (.int i3), .val (.ref b7), .val (.ref b19), .val (.int (sel &&& (7 : Int32))), .val (.int i3), .val (.int (0 : Int32))] []))) (fun _ kk => XS.goto X19.here hx rfl (pc0 := 157) (pc' := 189) rfl (hb hby at_157) (by decide) (by decide) kk) ?_
                refine go_of (B := (T19.setTop (mkF m 191 #[.val (.int p0), .val (.int p1), .val (.int p2), .val (.int sel), .val (.int xx), .val (.int i1), .val (.int i2), .val (.int i3), .val (.ref b7), .val (.ref b19), .val (.int (sel &&& (7 : Int32))), .val (.int i3), .val (.int (0 : Int32))] [(.ref b19)]))) (fun _ kk => XS.aload X19.here hx rfl (hb hby at_189) rfl rfl kk) ?_
                refine go_of (B := (T19.setTop (mkF m 193 #[.val (.int p0), .val (.int p1), .val (.int p2), .val (.int sel), .val (.int xx), .val (.int i1), .val (.int i2), .val (.int i3), .val (.ref b7), .val (.ref b19), .val (.int (sel &&& (7 : Int32))), .val (.int i3), .val (.int (0 : Int32))] [(.int i3), (.ref b19)]))) (fun _ kk => XS.iload X19.here hx rfl (hb hby at_191) rfl kk) ?_
                obtain ⟨_, _, ⟨T28, L28, k28, n28⟩, -, X28, ⟨Lc28, hQ28, l28, y28, z28⟩, st28⟩ := Jvm.LawKit.callS X19 hx (y := (⟨"com/example/libpubid/libpubid/id/Digits", "value", "([BC)I"⟩ : MethodName)) hown (mvT hZ (hw _ (List.mem_of_getElem? (i := 70) rfl))) (mvT hZ (hw _ (List.mem_of_getElem? (i := 71) rfl))) (mvT hZ (hw _ (List.mem_of_getElem? (i := 32) rfl))) (mvT hZ (hw _ (List.mem_of_getElem? (i := 72) rfl))) (by decide) (backOf (W := 0) (rm16 l Z a0 hw [] b19 i3 (own_tab i1 i2 i3) T19.heap n0 (by first | omega | exact own_ne (by omega) | exact own_le (by omega)) F19 ri3.1) hZ (hw _ (List.mem_of_getElem? (i := 72) rfl)) (hw _ (List.mem_of_getElem? (i := 32) rfl)) (by decide) (by decide)) (g := (mkF m 193 #[.val (.int p0), .val (.int p1), .val (.int p2), .val (.int sel), .val (.int xx), .val (.int i1), .val (.int i2), .val (.int i3), .val (.ref b7), .val (.ref b19), .val (.int (sel &&& (7 : Int32))), .val (.int i3), .val (.int (0 : Int32))] [(.int i3), (.ref b19)])) rfl (by rw [hml]; rfl) (argsL := [(.ref b19), (.int i3)]) (rest := []) (lenOf pd___BC_I rfl) rfl (by show 2 * 0 + _ ≤ _; exact Nat.le_of_eq rfl) (hb hby at_193) (fun _ _ => ⟨rfl, rfl, (by decide : 4 + 0 ≤ _), (by decide : 138 + 0 ≤ _)⟩)
                dsimp only [Pt.U, Pt.locs, Pt.cells, Pt.slots] at X28 l28 y28 z28 st28 hQ28
                subst l28 y28 z28
                obtain ⟨rfl, N28q, e28⟩ := hQ28
                have N28 := Fr.app N19 N28q
                refine go_of (B := (T28.setTop (mkF m 196 #[.val (.int p0), .val (.int p1), .val (.int p2), .val (.int sel), .val (.int xx), .val (.int i1), .val (.int i2), .val (.int i3), .val (.ref b7), .val (.ref b19), .val (.int (sel &&& (7 : Int32))), .val (.int i3), .val (.int (0 : Int32))] [(.int (own_val (own_tab i1 i2 i3) i3))]))) (st28) ?_
                refine go_of (B := (T28.setTop (mkF m 198 #[.val (.int p0), .val (.int p1), .val (.int p2), .val (.int sel), .val (.int xx), .val (.int i1), .val (.int i2), .val (.int i3), .val (.ref b7), .val (.ref b19), .val (.int (sel &&& (7 : Int32))), .val (.int i3), .val (.int (0 : Int32))] [(.int (0 : Int32)), (.int (own_val (own_tab i1 i2 i3) i3))]))) (fun _ kk => XS.iload X28.here hx rfl (hb hby at_196) rfl kk) ?_
                refine go_of (B := (T28.setTop (mkF m 201 #[.val (.int p0), .val (.int p1), .val (.int p2), .val (.int sel), .val (.int xx), .val (.int i1), .val (.int i2), .val (.int i3), .val (.ref b7), .val (.ref b19), .val (.int (sel &&& (7 : Int32))), .val (.int i3), .val (.int (0 : Int32))] []))) (fun _ kk => XS.icmpNo X28.here hx rfl (hb hby at_198) rfl (teq (by rw [own_valtab _ _ _ _ ri1 ri2 ri3 ri3.1]; first | (simp_all; done) | (simp [hc4, hc5, hc6, hc27]; done) | grind : (own_val (own_tab i1 i2 i3) i3) = (0 : Int32))).2 kk) ?_
                refine go_of (B := (T28.setTop (mkF m 202 #[.val (.int p0), .val (.int p1), .val (.int p2), .val (.int sel), .val (.int xx), .val (.int i1), .val (.int i2), .val (.int i3), .val (.ref b7), .val (.ref b19), .val (.int (sel &&& (7 : Int32))), .val (.int i3), .val (.int (0 : Int32))] [(.int (1 : Int32))]))) (fun _ kk => XS.iconst X28.here hx rfl (hb hby at_201) kk) ?_
                refine go_of (B := (T28.setTop (mkF m 206 #[.val (.int p0), .val (.int p1), .val (.int p2), .val (.int sel), .val (.int xx), .val (.int i1), .val (.int i2), .val (.int i3), .val (.ref b7), .val (.ref b19), .val (.int (sel &&& (7 : Int32))), .val (.int i3), .val (.int (0 : Int32))] [(.int (1 : Int32))]))) (fun _ kk => XS.goto X28.here hx rfl (pc0 := 202) (pc' := 206) rfl (hb hby at_202) (by decide) (by decide) kk) ?_
                refine go_end X28 (v := some (.int (nar .boolean (1 : Int32)))) (fun h => by rw [Bd.returns] at h; cases h) Bd.notSynchronized (by decide) (by decide) (Q := (Q_rm0 Z p0 p1 p2 sel xx gC gF h0 n0)) ?_ (fun fs hr => retN X28 hx (t := .boolean) Bd.returns (by simp) (hb hby at_206) hr)
                show (fun (v : Option Value) (h : Heap) (L : List Loc) => v = some (.int 1) ∧ Fr n0 L) (some (.int (nar .boolean (1 : Int32)))) T28.heap _
                rw [e28]
                exact ⟨rfl, N28⟩
              · refine go_of (B := (T19.setTop (mkF m 160 #[.val (.int p0), .val (.int p1), .val (.int p2), .val (.int sel), .val (.int xx), .val (.int i1), .val (.int i2), .val (.int i3), .val (.ref b7), .val (.ref b19), .val (.int (sel &&& (7 : Int32))), .val (.int i3), .unset] []))) (fun _ kk => XS.icmpYes X19.here hx rfl (pc0 := 151) (pc' := 160) rfl (hb hby at_151) rfl (feq hc27).2 (by decide) (by decide) kk) ?_
                refine go_of (B := (T19.setTop (mkF m 162 #[.val (.int p0), .val (.int p1), .val (.int p2), .val (.int sel), .val (.int xx), .val (.int i1), .val (.int i2), .val (.int i3), .val (.ref b7), .val (.ref b19), .val (.int (sel &&& (7 : Int32))), .val (.int i3), .unset] [(.int i3)]))) (fun _ kk => XS.iload X19.here hx rfl (hb hby at_160) rfl kk) ?_
                refine go_of (B := (T19.setTop (mkF m 164 #[.val (.int p0), .val (.int p1), .val (.int p2), .val (.int sel), .val (.int xx), .val (.int i1), .val (.int i2), .val (.int i3), .val (.ref b7), .val (.ref b19), .val (.int (sel &&& (7 : Int32))), .val (.int i3), .unset] [(.int i2), (.int i3)]))) (fun _ kk => XS.iload X19.here hx rfl (hb hby at_162) rfl kk) ?_
                by_cases hc29 : i3 = i2
                · refine go_of (B := (T19.setTop (mkF m 167 #[.val (.int p0), .val (.int p1), .val (.int p2), .val (.int sel), .val (.int xx), .val (.int i1), .val (.int i2), .val (.int i3), .val (.ref b7), .val (.ref b19), .val (.int (sel &&& (7 : Int32))), .val (.int i3), .unset] []))) (fun _ kk => XS.icmpNo X19.here hx rfl (hb hby at_164) rfl (teq hc29).2 kk) ?_
                  refine go_of (B := (T19.setTop (mkF m 168 #[.val (.int p0), .val (.int p1), .val (.int p2), .val (.int sel), .val (.int xx), .val (.int i1), .val (.int i2), .val (.int i3), .val (.ref b7), .val (.ref b19), .val (.int (sel &&& (7 : Int32))), .val (.int i3), .unset] [(.int (1 : Int32))]))) (fun _ kk => XS.iconst X19.here hx rfl (hb hby at_167) kk) ?_
                  refine go_of (B := (T19.setTop (mkF m 170 #[.val (.int p0), .val (.int p1), .val (.int p2), .val (.int sel), .val (.int xx), .val (.int i1), .val (.int i2), .val (.int i3), .val (.ref b7), .val (.ref b19), .val (.int (sel &&& (7 : Int32))), .val (.int i3), .val (.int (1 : Int32))] []))) (fun _ kk => XS.istore X19.here hx rfl (hb hby at_168) rfl rfl kk) ?_
                  refine go_of (B := (T19.setTop (mkF m 189 #[.val (.int p0), .val (.int p1), .val (.int p2), .val (.int sel), .val (.int xx), .val (.int i1), .val (.int i2), .val (.int i3), .val (.ref b7), .val (.ref b19), .val (.int (sel &&& (7 : Int32))), .val (.int i3), .val (.int (1 : Int32))] []))) (fun _ kk => XS.goto X19.here hx rfl (pc0 := 170) (pc' := 189) rfl (hb hby at_170) (by decide) (by decide) kk) ?_
                  refine go_of (B := (T19.setTop (mkF m 191 #[.val (.int p0), .val (.int p1), .val (.int p2), .val (.int sel), .val (.int xx), .val (.int i1), .val (.int i2), .val (.int i3), .val (.ref b7), .val (.ref b19), .val (.int (sel &&& (7 : Int32))), .val (.int i3), .val (.int (1 : Int32))] [(.ref b19)]))) (fun _ kk => XS.aload X19.here hx rfl (hb hby at_189) rfl rfl kk) ?_
                  refine go_of (B := (T19.setTop (mkF m 193 #[.val (.int p0), .val (.int p1), .val (.int p2), .val (.int sel), .val (.int xx), .val (.int i1), .val (.int i2), .val (.int i3), .val (.ref b7), .val (.ref b19), .val (.int (sel &&& (7 : Int32))), .val (.int i3), .val (.int (1 : Int32))] [(.int i3), (.ref b19)]))) (fun _ kk => XS.iload X19.here hx rfl (hb hby at_191) rfl kk) ?_
                  obtain ⟨_, _, ⟨T30, L30, k30, n30⟩, -, X30, ⟨Lc30, hQ30, l30, y30, z30⟩, st30⟩ := Jvm.LawKit.callS X19 hx (y := (⟨"com/example/libpubid/libpubid/id/Digits", "value", "([BC)I"⟩ : MethodName)) hown (mvT hZ (hw _ (List.mem_of_getElem? (i := 70) rfl))) (mvT hZ (hw _ (List.mem_of_getElem? (i := 71) rfl))) (mvT hZ (hw _ (List.mem_of_getElem? (i := 32) rfl))) (mvT hZ (hw _ (List.mem_of_getElem? (i := 72) rfl))) (by decide) (backOf (W := 0) (rm16 l Z a0 hw [] b19 i3 (own_tab i1 i2 i3) T19.heap n0 (by first | omega | exact own_ne (by omega) | exact own_le (by omega)) F19 ri3.1) hZ (hw _ (List.mem_of_getElem? (i := 72) rfl)) (hw _ (List.mem_of_getElem? (i := 32) rfl)) (by decide) (by decide)) (g := (mkF m 193 #[.val (.int p0), .val (.int p1), .val (.int p2), .val (.int sel), .val (.int xx), .val (.int i1), .val (.int i2), .val (.int i3), .val (.ref b7), .val (.ref b19), .val (.int (sel &&& (7 : Int32))), .val (.int i3), .val (.int (1 : Int32))] [(.int i3), (.ref b19)])) rfl (by rw [hml]; rfl) (argsL := [(.ref b19), (.int i3)]) (rest := []) (lenOf pd___BC_I rfl) rfl (by show 2 * 0 + _ ≤ _; exact Nat.le_of_eq rfl) (hb hby at_193) (fun _ _ => ⟨rfl, rfl, (by decide : 4 + 0 ≤ _), (by decide : 138 + 0 ≤ _)⟩)
                  dsimp only [Pt.U, Pt.locs, Pt.cells, Pt.slots] at X30 l30 y30 z30 st30 hQ30
                  subst l30 y30 z30
                  obtain ⟨rfl, N30q, e30⟩ := hQ30
                  have N30 := Fr.app N19 N30q
                  refine go_of (B := (T30.setTop (mkF m 196 #[.val (.int p0), .val (.int p1), .val (.int p2), .val (.int sel), .val (.int xx), .val (.int i1), .val (.int i2), .val (.int i3), .val (.ref b7), .val (.ref b19), .val (.int (sel &&& (7 : Int32))), .val (.int i3), .val (.int (1 : Int32))] [(.int (own_val (own_tab i1 i2 i3) i3))]))) (st30) ?_
                  refine go_of (B := (T30.setTop (mkF m 198 #[.val (.int p0), .val (.int p1), .val (.int p2), .val (.int sel), .val (.int xx), .val (.int i1), .val (.int i2), .val (.int i3), .val (.ref b7), .val (.ref b19), .val (.int (sel &&& (7 : Int32))), .val (.int i3), .val (.int (1 : Int32))] [(.int (1 : Int32)), (.int (own_val (own_tab i1 i2 i3) i3))]))) (fun _ kk => XS.iload X30.here hx rfl (hb hby at_196) rfl kk) ?_
                  refine go_of (B := (T30.setTop (mkF m 201 #[.val (.int p0), .val (.int p1), .val (.int p2), .val (.int sel), .val (.int xx), .val (.int i1), .val (.int i2), .val (.int i3), .val (.ref b7), .val (.ref b19), .val (.int (sel &&& (7 : Int32))), .val (.int i3), .val (.int (1 : Int32))] []))) (fun _ kk => XS.icmpNo X30.here hx rfl (hb hby at_198) rfl (teq (by rw [own_valtab _ _ _ _ ri1 ri2 ri3 ri3.1]; first | (simp_all; done) | (simp [hc4, hc5, hc6, hc27, hc29]; done) | grind : (own_val (own_tab i1 i2 i3) i3) = (1 : Int32))).2 kk) ?_
                  refine go_of (B := (T30.setTop (mkF m 202 #[.val (.int p0), .val (.int p1), .val (.int p2), .val (.int sel), .val (.int xx), .val (.int i1), .val (.int i2), .val (.int i3), .val (.ref b7), .val (.ref b19), .val (.int (sel &&& (7 : Int32))), .val (.int i3), .val (.int (1 : Int32))] [(.int (1 : Int32))]))) (fun _ kk => XS.iconst X30.here hx rfl (hb hby at_201) kk) ?_
                  refine go_of (B := (T30.setTop (mkF m 206 #[.val (.int p0), .val (.int p1), .val (.int p2), .val (.int sel), .val (.int xx), .val (.int i1), .val (.int i2), .val (.int i3), .val (.ref b7), .val (.ref b19), .val (.int (sel &&& (7 : Int32))), .val (.int i3), .val (.int (1 : Int32))] [(.int (1 : Int32))]))) (fun _ kk => XS.goto X30.here hx rfl (pc0 := 202) (pc' := 206) rfl (hb hby at_202) (by decide) (by decide) kk) ?_
                  refine go_end X30 (v := some (.int (nar .boolean (1 : Int32)))) (fun h => by rw [Bd.returns] at h; cases h) Bd.notSynchronized (by decide) (by decide) (Q := (Q_rm0 Z p0 p1 p2 sel xx gC gF h0 n0)) ?_ (fun fs hr => retN X30 hx (t := .boolean) Bd.returns (by simp) (hb hby at_206) hr)
                  show (fun (v : Option Value) (h : Heap) (L : List Loc) => v = some (.int 1) ∧ Fr n0 L) (some (.int (nar .boolean (1 : Int32)))) T30.heap _
                  rw [e30]
                  exact ⟨rfl, N30⟩
                · refine go_of (B := (T19.setTop (mkF m 173 #[.val (.int p0), .val (.int p1), .val (.int p2), .val (.int sel), .val (.int xx), .val (.int i1), .val (.int i2), .val (.int i3), .val (.ref b7), .val (.ref b19), .val (.int (sel &&& (7 : Int32))), .val (.int i3), .unset] []))) (fun _ kk => XS.icmpYes X19.here hx rfl (pc0 := 164) (pc' := 173) rfl (hb hby at_164) rfl (feq hc29).2 (by decide) (by decide) kk) ?_
                  refine go_of (B := (T19.setTop (mkF m 175 #[.val (.int p0), .val (.int p1), .val (.int p2), .val (.int sel), .val (.int xx), .val (.int i1), .val (.int i2), .val (.int i3), .val (.ref b7), .val (.ref b19), .val (.int (sel &&& (7 : Int32))), .val (.int i3), .unset] [(.int i3)]))) (fun _ kk => XS.iload X19.here hx rfl (hb hby at_173) rfl kk) ?_
                  refine go_of (B := (T19.setTop (mkF m 177 #[.val (.int p0), .val (.int p1), .val (.int p2), .val (.int sel), .val (.int xx), .val (.int i1), .val (.int i2), .val (.int i3), .val (.ref b7), .val (.ref b19), .val (.int (sel &&& (7 : Int32))), .val (.int i3), .unset] [(.int i3), (.int i3)]))) (fun _ kk => XS.iload X19.here hx rfl (hb hby at_175) rfl kk) ?_
                  refine go_of (B := (T19.setTop (mkF m 180 #[.val (.int p0), .val (.int p1), .val (.int p2), .val (.int sel), .val (.int xx), .val (.int i1), .val (.int i2), .val (.int i3), .val (.ref b7), .val (.ref b19), .val (.int (sel &&& (7 : Int32))), .val (.int i3), .unset] []))) (fun _ kk => XS.icmpNo X19.here hx rfl (hb hby at_177) rfl (teq (rfl : i3 = i3)).2 kk) ?_
                  refine go_of (B := (T19.setTop (mkF m 181 #[.val (.int p0), .val (.int p1), .val (.int p2), .val (.int sel), .val (.int xx), .val (.int i1), .val (.int i2), .val (.int i3), .val (.ref b7), .val (.ref b19), .val (.int (sel &&& (7 : Int32))), .val (.int i3), .unset] [(.int (2 : Int32))]))) (fun _ kk => XS.iconst X19.here hx rfl (hb hby at_180) kk) ?_
                  refine go_of (B := (T19.setTop (mkF m 183 #[.val (.int p0), .val (.int p1), .val (.int p2), .val (.int sel), .val (.int xx), .val (.int i1), .val (.int i2), .val (.int i3), .val (.ref b7), .val (.ref b19), .val (.int (sel &&& (7 : Int32))), .val (.int i3), .val (.int (2 : Int32))] []))) (fun _ kk => XS.istore X19.here hx rfl (hb hby at_181) rfl rfl kk) ?_
                  refine go_of (B := (T19.setTop (mkF m 189 #[.val (.int p0), .val (.int p1), .val (.int p2), .val (.int sel), .val (.int xx), .val (.int i1), .val (.int i2), .val (.int i3), .val (.ref b7), .val (.ref b19), .val (.int (sel &&& (7 : Int32))), .val (.int i3), .val (.int (2 : Int32))] []))) (fun _ kk => XS.goto X19.here hx rfl (pc0 := 183) (pc' := 189) rfl (hb hby at_183) (by decide) (by decide) kk) ?_
                  refine go_of (B := (T19.setTop (mkF m 191 #[.val (.int p0), .val (.int p1), .val (.int p2), .val (.int sel), .val (.int xx), .val (.int i1), .val (.int i2), .val (.int i3), .val (.ref b7), .val (.ref b19), .val (.int (sel &&& (7 : Int32))), .val (.int i3), .val (.int (2 : Int32))] [(.ref b19)]))) (fun _ kk => XS.aload X19.here hx rfl (hb hby at_189) rfl rfl kk) ?_
                  refine go_of (B := (T19.setTop (mkF m 193 #[.val (.int p0), .val (.int p1), .val (.int p2), .val (.int sel), .val (.int xx), .val (.int i1), .val (.int i2), .val (.int i3), .val (.ref b7), .val (.ref b19), .val (.int (sel &&& (7 : Int32))), .val (.int i3), .val (.int (2 : Int32))] [(.int i3), (.ref b19)]))) (fun _ kk => XS.iload X19.here hx rfl (hb hby at_191) rfl kk) ?_
                  obtain ⟨_, _, ⟨T31, L31, k31, n31⟩, -, X31, ⟨Lc31, hQ31, l31, y31, z31⟩, st31⟩ := Jvm.LawKit.callS X19 hx (y := (⟨"com/example/libpubid/libpubid/id/Digits", "value", "([BC)I"⟩ : MethodName)) hown (mvT hZ (hw _ (List.mem_of_getElem? (i := 70) rfl))) (mvT hZ (hw _ (List.mem_of_getElem? (i := 71) rfl))) (mvT hZ (hw _ (List.mem_of_getElem? (i := 32) rfl))) (mvT hZ (hw _ (List.mem_of_getElem? (i := 72) rfl))) (by decide) (backOf (W := 0) (rm16 l Z a0 hw [] b19 i3 (own_tab i1 i2 i3) T19.heap n0 (by first | omega | exact own_ne (by omega) | exact own_le (by omega)) F19 ri3.1) hZ (hw _ (List.mem_of_getElem? (i := 72) rfl)) (hw _ (List.mem_of_getElem? (i := 32) rfl)) (by decide) (by decide)) (g := (mkF m 193 #[.val (.int p0), .val (.int p1), .val (.int p2), .val (.int sel), .val (.int xx), .val (.int i1), .val (.int i2), .val (.int i3), .val (.ref b7), .val (.ref b19), .val (.int (sel &&& (7 : Int32))), .val (.int i3), .val (.int (2 : Int32))] [(.int i3), (.ref b19)])) rfl (by rw [hml]; rfl) (argsL := [(.ref b19), (.int i3)]) (rest := []) (lenOf pd___BC_I rfl) rfl (by show 2 * 0 + _ ≤ _; exact Nat.le_of_eq rfl) (hb hby at_193) (fun _ _ => ⟨rfl, rfl, (by decide : 4 + 0 ≤ _), (by decide : 138 + 0 ≤ _)⟩)
                  dsimp only [Pt.U, Pt.locs, Pt.cells, Pt.slots] at X31 l31 y31 z31 st31 hQ31
                  subst l31 y31 z31
                  obtain ⟨rfl, N31q, e31⟩ := hQ31
                  have N31 := Fr.app N19 N31q
                  refine go_of (B := (T31.setTop (mkF m 196 #[.val (.int p0), .val (.int p1), .val (.int p2), .val (.int sel), .val (.int xx), .val (.int i1), .val (.int i2), .val (.int i3), .val (.ref b7), .val (.ref b19), .val (.int (sel &&& (7 : Int32))), .val (.int i3), .val (.int (2 : Int32))] [(.int (own_val (own_tab i1 i2 i3) i3))]))) (st31) ?_
                  refine go_of (B := (T31.setTop (mkF m 198 #[.val (.int p0), .val (.int p1), .val (.int p2), .val (.int sel), .val (.int xx), .val (.int i1), .val (.int i2), .val (.int i3), .val (.ref b7), .val (.ref b19), .val (.int (sel &&& (7 : Int32))), .val (.int i3), .val (.int (2 : Int32))] [(.int (2 : Int32)), (.int (own_val (own_tab i1 i2 i3) i3))]))) (fun _ kk => XS.iload X31.here hx rfl (hb hby at_196) rfl kk) ?_
                  refine go_of (B := (T31.setTop (mkF m 201 #[.val (.int p0), .val (.int p1), .val (.int p2), .val (.int sel), .val (.int xx), .val (.int i1), .val (.int i2), .val (.int i3), .val (.ref b7), .val (.ref b19), .val (.int (sel &&& (7 : Int32))), .val (.int i3), .val (.int (2 : Int32))] []))) (fun _ kk => XS.icmpNo X31.here hx rfl (hb hby at_198) rfl (teq (by rw [own_valtab _ _ _ _ ri1 ri2 ri3 ri3.1]; first | (simp_all; done) | (simp [hc4, hc5, hc6, hc27, hc29]; done) | grind : (own_val (own_tab i1 i2 i3) i3) = (2 : Int32))).2 kk) ?_
                  refine go_of (B := (T31.setTop (mkF m 202 #[.val (.int p0), .val (.int p1), .val (.int p2), .val (.int sel), .val (.int xx), .val (.int i1), .val (.int i2), .val (.int i3), .val (.ref b7), .val (.ref b19), .val (.int (sel &&& (7 : Int32))), .val (.int i3), .val (.int (2 : Int32))] [(.int (1 : Int32))]))) (fun _ kk => XS.iconst X31.here hx rfl (hb hby at_201) kk) ?_
                  refine go_of (B := (T31.setTop (mkF m 206 #[.val (.int p0), .val (.int p1), .val (.int p2), .val (.int sel), .val (.int xx), .val (.int i1), .val (.int i2), .val (.int i3), .val (.ref b7), .val (.ref b19), .val (.int (sel &&& (7 : Int32))), .val (.int i3), .val (.int (2 : Int32))] [(.int (1 : Int32))]))) (fun _ kk => XS.goto X31.here hx rfl (pc0 := 202) (pc' := 206) rfl (hb hby at_202) (by decide) (by decide) kk) ?_
                  refine go_end X31 (v := some (.int (nar .boolean (1 : Int32)))) (fun h => by rw [Bd.returns] at h; cases h) Bd.notSynchronized (by decide) (by decide) (Q := (Q_rm0 Z p0 p1 p2 sel xx gC gF h0 n0)) ?_ (fun fs hr => retN X31 hx (t := .boolean) Bd.returns (by simp) (hb hby at_206) hr)
                  show (fun (v : Option Value) (h : Heap) (L : List Loc) => v = some (.int 1) ∧ Fr n0 L) (some (.int (nar .boolean (1 : Int32)))) T31.heap _
                  rw [e31]
                  exact ⟨rfl, N31⟩
            · refine go_of (B := (T19.setTop (mkF m 125 #[.val (.int p0), .val (.int p1), .val (.int p2), .val (.int sel), .val (.int xx), .val (.int i1), .val (.int i2), .val (.int i3), .val (.ref b7), .val (.ref b19), .val (.int (sel &&& (7 : Int32))), .unset, .unset] []))) (fun _ kk => XS.icmpYes X19.here hx rfl (pc0 := 115) (pc' := 125) rfl (hb hby at_115) rfl (feq hc26).2 (by decide) (by decide) kk) ?_
              refine go_of (B := (T19.setTop (mkF m 127 #[.val (.int p0), .val (.int p1), .val (.int p2), .val (.int sel), .val (.int xx), .val (.int i1), .val (.int i2), .val (.int i3), .val (.ref b7), .val (.ref b19), .val (.int (sel &&& (7 : Int32))), .unset, .unset] [(.int (sel &&& (7 : Int32)))]))) (fun _ kk => XS.iload X19.here hx rfl (hb hby at_125) rfl kk) ?_
              refine go_of (B := (T19.setTop (mkF m 128 #[.val (.int p0), .val (.int p1), .val (.int p2), .val (.int sel), .val (.int xx), .val (.int i1), .val (.int i2), .val (.int i3), .val (.ref b7), .val (.ref b19), .val (.int (sel &&& (7 : Int32))), .unset, .unset] [(.int (3 : Int32)), (.int (sel &&& (7 : Int32)))]))) (fun _ kk => XS.iconst X19.here hx rfl (hb hby at_127) kk) ?_
              by_cases hc32 : (sel &&& (7 : Int32)) = (3 : Int32)
              · refine go_of (B := (T19.setTop (mkF m 131 #[.val (.int p0), .val (.int p1), .val (.int p2), .val (.int sel), .val (.int xx), .val (.int i1), .val (.int i2), .val (.int i3), .val (.ref b7), .val (.ref b19), .val (.int (sel &&& (7 : Int32))), .unset, .unset] []))) (fun _ kk => XS.icmpNo X19.here hx rfl (hb hby at_128) rfl (teq hc32).2 kk) ?_
                refine go_of (B := (T19.setTop (mkF m 133 #[.val (.int p0), .val (.int p1), .val (.int p2), .val (.int sel), .val (.int xx), .val (.int i1), .val (.int i2), .val (.int i3), .val (.ref b7), .val (.ref b19), .val (.int (sel &&& (7 : Int32))), .unset, .unset] [(.int xx)]))) (fun _ kk => XS.iload X19.here hx rfl (hb hby at_131) rfl kk) ?_
                refine go_of (B := (T19.setTop (mkF m 135 #[.val (.int p0), .val (.int p1), .val (.int p2), .val (.int sel), .val (.int xx), .val (.int i1), .val (.int i2), .val (.int i3), .val (.ref b7), .val (.ref b19), .val (.int (sel &&& (7 : Int32))), .unset, .unset] [(.int (127 : Int32)), (.int xx)]))) (fun _ kk => XS.bipush X19.here hx rfl (hb hby at_133) kk) ?_
                refine go_of (B := (T19.setTop (mkF m 136 #[.val (.int p0), .val (.int p1), .val (.int p2), .val (.int sel), .val (.int xx), .val (.int i1), .val (.int i2), .val (.int i3), .val (.ref b7), .val (.ref b19), .val (.int (sel &&& (7 : Int32))), .unset, .unset] [(.int (xx &&& (127 : Int32)))]))) (fun _ kk => XS.iand X19.here hx rfl (hb hby at_135) rfl kk) ?_
                refine go_of (B := (T19.setTop (mkF m 137 #[.val (.int p0), .val (.int p1), .val (.int p2), .val (.int sel), .val (.int xx), .val (.int i1), .val (.int i2), .val (.int i3), .val (.ref b7), .val (.ref b19), .val (.int (sel &&& (7 : Int32))), .unset, .unset] [(.int ((xx &&& (127 : Int32)).toUInt32.toUInt16.toUInt32.toInt32))]))) (fun _ kk => XS.i2c X19.here hx rfl (hb hby at_136) rfl kk) ?_
                refine go_of (B := (T19.setTop (mkF m 139 #[.val (.int p0), .val (.int p1), .val (.int p2), .val (.int sel), .val (.int xx), .val (.int i1), .val (.int i2), .val (.int i3), .val (.ref b7), .val (.ref b19), .val (.int (sel &&& (7 : Int32))), .val (.int ((xx &&& (127 : Int32)).toUInt32.toUInt16.toUInt32.toInt32)), .unset] []))) (fun _ kk => XS.istore X19.here hx rfl (hb hby at_137) rfl rfl kk) ?_
                generalize hi33 : ((xx &&& (127 : Int32)).toUInt32.toUInt16.toUInt32.toInt32) = i33
                refine go_of (B := (T19.setTop (mkF m 147 #[.val (.int p0), .val (.int p1), .val (.int p2), .val (.int sel), .val (.int xx), .val (.int i1), .val (.int i2), .val (.int i3), .val (.ref b7), .val (.ref b19), .val (.int (sel &&& (7 : Int32))), .val (.int i33), .unset] []))) (fun _ kk => XS.goto X19.here hx rfl (pc0 := 139) (pc' := 147) rfl (hb hby at_139) (by decide) (by decide) kk) ?_
                have rc34 : ¬ i33 < 0 := by first | (rw [← hi33]; exact (own_c127 xx).1) | (rw [← hi33]; exact own_c16 xx)
                refine go_of (B := (T19.setTop (mkF m 149 #[.val (.int p0), .val (.int p1), .val (.int p2), .val (.int sel), .val (.int xx), .val (.int i1), .val (.int i2), .val (.int i3), .val (.ref b7), .val (.ref b19), .val (.int (sel &&& (7 : Int32))), .val (.int i33), .unset] [(.int i33)]))) (fun _ kk => XS.iload X19.here hx rfl (hb hby at_147) rfl kk) ?_
                refine go_of (B := (T19.setTop (mkF m 151 #[.val (.int p0), .val (.int p1), .val (.int p2), .val (.int sel), .val (.int xx), .val (.int i1), .val (.int i2), .val (.int i3), .val (.ref b7), .val (.ref b19), .val (.int (sel &&& (7 : Int32))), .val (.int i33), .unset] [(.int i1), (.int i33)]))) (fun _ kk => XS.iload X19.here hx rfl (hb hby at_149) rfl kk) ?_
                by_cases hc35 : i33 = i1
                · refine go_of (B := (T19.setTop (mkF m 154 #[.val (.int p0), .val (.int p1), .val (.int p2), .val (.int sel), .val (.int xx), .val (.int i1), .val (.int i2), .val (.int i3), .val (.ref b7), .val (.ref b19), .val (.int (sel &&& (7 : Int32))), .val (.int i33), .unset] []))) (fun _ kk => XS.icmpNo X19.here hx rfl (hb hby at_151) rfl (teq hc35).2 kk) ?_
                  refine go_of (B := (T19.setTop (mkF m 155 #[.val (.int p0), .val (.int p1), .val (.int p2), .val (.int sel), .val (.int xx), .val (.int i1), .val (.int i2), .val (.int i3), .val (.ref b7), .val (.ref b19), .val (.int (sel &&& (7 : Int32))), .val (.int i33), .unset] [(.int (0 : Int32))]))) (fun _ kk => XS.iconst X19.here hx rfl (hb hby at_154) kk) ?_
                  refine go_of (B := (T19.setTop (mkF m 157 #[.val (.int p0), .val (.int p1), .val (.int p2), .val (.int sel), .val (.int xx), .val (.int i1), .val (.int i2), .val (.int i3), .val (.ref b7), .val (.ref b19), .val (.int (sel &&& (7 : Int32))), .val (.int i33), .val (.int (0 : Int32))] []))) (fun _ kk => XS.istore X19.here hx rfl (hb hby at_155) rfl rfl kk) ?_
                  refine go_of (B := (T19.setTop (mkF m 189 #[.val (.int p0), .val (.int p1), .val (.int p2), .val (.int sel), .val (.int xx), .val (.int i1), .val (.int i2), .val (.int i3), .val (.ref b7), .val (.ref b19), .val (.int (sel &&& (7 : Int32))), .val (.int i33), .val (.int (0 : Int32))] []))) (fun _ kk => XS.goto X19.here hx rfl (pc0 := 157) (pc' := 189) rfl (hb hby at_157) (by decide) (by decide) kk) ?_
                  refine go_of (B := (T19.setTop (mkF m 191 #[.val (.int p0), .val (.int p1), .val (.int p2), .val (.int sel), .val (.int xx), .val (.int i1), .val (.int i2), .val (.int i3), .val (.ref b7), .val (.ref b19), .val (.int (sel &&& (7 : Int32))), .val (.int i33), .val (.int (0 : Int32))] [(.ref b19)]))) (fun _ kk => XS.aload X19.here hx rfl (hb hby at_189) rfl rfl kk) ?_
                  refine go_of (B := (T19.setTop (mkF m 193 #[.val (.int p0), .val (.int p1), .val (.int p2), .val (.int sel), .val (.int xx), .val (.int i1), .val (.int i2), .val (.int i3), .val (.ref b7), .val (.ref b19), .val (.int (sel &&& (7 : Int32))), .val (.int i33), .val (.int (0 : Int32))] [(.int i33), (.ref b19)]))) (fun _ kk => XS.iload X19.here hx rfl (hb hby at_191) rfl kk) ?_
                  obtain ⟨_, _, ⟨T36, L36, k36, n36⟩, -, X36, ⟨Lc36, hQ36, l36, y36, z36⟩, st36⟩ := Jvm.LawKit.callS X19 hx (y := (⟨"com/example/libpubid/libpubid/id/Digits", "value", "([BC)I"⟩ : MethodName)) hown (mvT hZ (hw _ (List.mem_of_getElem? (i := 70) rfl))) (mvT hZ (hw _ (List.mem_of_getElem? (i := 71) rfl))) (mvT hZ (hw _ (List.mem_of_getElem? (i := 32) rfl))) (mvT hZ (hw _ (List.mem_of_getElem? (i := 72) rfl))) (by decide) (backOf (W := 0) (rm16 l Z a0 hw [] b19 i33 (own_tab i1 i2 i3) T19.heap n0 (by first | omega | exact own_ne (by omega) | exact own_le (by omega)) F19 rc34) hZ (hw _ (List.mem_of_getElem? (i := 72) rfl)) (hw _ (List.mem_of_getElem? (i := 32) rfl)) (by decide) (by decide)) (g := (mkF m 193 #[.val (.int p0), .val (.int p1), .val (.int p2), .val (.int sel), .val (.int xx), .val (.int i1), .val (.int i2), .val (.int i3), .val (.ref b7), .val (.ref b19), .val (.int (sel &&& (7 : Int32))), .val (.int i33), .val (.int (0 : Int32))] [(.int i33), (.ref b19)])) rfl (by rw [hml]; rfl) (argsL := [(.ref b19), (.int i33)]) (rest := []) (lenOf pd___BC_I rfl) rfl (by show 2 * 0 + _ ≤ _; exact Nat.le_of_eq rfl) (hb hby at_193) (fun _ _ => ⟨rfl, rfl, (by decide : 4 + 0 ≤ _), (by decide : 138 + 0 ≤ _)⟩)
                  dsimp only [Pt.U, Pt.locs, Pt.cells, Pt.slots] at X36 l36 y36 z36 st36 hQ36
                  subst l36 y36 z36
                  obtain ⟨rfl, N36q, e36⟩ := hQ36
                  have N36 := Fr.app N19 N36q
                  refine go_of (B := (T36.setTop (mkF m 196 #[.val (.int p0), .val (.int p1), .val (.int p2), .val (.int sel), .val (.int xx), .val (.int i1), .val (.int i2), .val (.int i3), .val (.ref b7), .val (.ref b19), .val (.int (sel &&& (7 : Int32))), .val (.int i33), .val (.int (0 : Int32))] [(.int (own_val (own_tab i1 i2 i3) i33))]))) (st36) ?_
                  refine go_of (B := (T36.setTop (mkF m 198 #[.val (.int p0), .val (.int p1), .val (.int p2), .val (.int sel), .val (.int xx), .val (.int i1), .val (.int i2), .val (.int i3), .val (.ref b7), .val (.ref b19), .val (.int (sel &&& (7 : Int32))), .val (.int i33), .val (.int (0 : Int32))] [(.int (0 : Int32)), (.int (own_val (own_tab i1 i2 i3) i33))]))) (fun _ kk => XS.iload X36.here hx rfl (hb hby at_196) rfl kk) ?_
                  refine go_of (B := (T36.setTop (mkF m 201 #[.val (.int p0), .val (.int p1), .val (.int p2), .val (.int sel), .val (.int xx), .val (.int i1), .val (.int i2), .val (.int i3), .val (.ref b7), .val (.ref b19), .val (.int (sel &&& (7 : Int32))), .val (.int i33), .val (.int (0 : Int32))] []))) (fun _ kk => XS.icmpNo X36.here hx rfl (hb hby at_198) rfl (teq (by rw [own_valtab _ _ _ _ ri1 ri2 ri3 rc34]; first | (simp_all; done) | (simp [hc4, hc5, hc6, hc35]; done) | grind : (own_val (own_tab i1 i2 i3) i33) = (0 : Int32))).2 kk) ?_
                  refine go_of (B := (T36.setTop (mkF m 202 #[.val (.int p0), .val (.int p1), .val (.int p2), .val (.int sel), .val (.int xx), .val (.int i1), .val (.int i2), .val (.int i3), .val (.ref b7), .val (.ref b19), .val (.int (sel &&& (7 : Int32))), .val (.int i33), .val (.int (0 : Int32))] [(.int (1 : Int32))]))) (fun _ kk => XS.iconst X36.here hx rfl (hb hby at_201) kk) ?_
                  refine go_of (B := (T36.setTop (mkF m 206 #[.val (.int p0), .val (.int p1), .val (.int p2), .val (.int sel), .val (.int xx), .val (.int i1), .val (.int i2), .val (.int i3), .val (.ref b7), .val (.ref b19), .val (.int (sel &&& (7 : Int32))), .val (.int i33), .val (.int (0 : Int32))] [(.int (1 : Int32))]))) (fun _ kk => XS.goto X36.here hx rfl (pc0 := 202) (pc' := 206) rfl (hb hby at_202) (by decide) (by decide) kk) ?_
                  refine go_end X36 (v := some (.int (nar .boolean (1 : Int32)))) (fun h => by rw [Bd.returns] at h; cases h) Bd.notSynchronized (by decide) (by decide) (Q := (Q_rm0 Z p0 p1 p2 sel xx gC gF h0 n0)) ?_ (fun fs hr => retN X36 hx (t := .boolean) Bd.returns (by simp) (hb hby at_206) hr)
                  show (fun (v : Option Value) (h : Heap) (L : List Loc) => v = some (.int 1) ∧ Fr n0 L) (some (.int (nar .boolean (1 : Int32)))) T36.heap _
                  rw [e36]
                  exact ⟨rfl, N36⟩
                · refine go_of (B := (T19.setTop (mkF m 160 #[.val (.int p0), .val (.int p1), .val (.int p2), .val (.int sel), .val (.int xx), .val (.int i1), .val (.int i2), .val (.int i3), .val (.ref b7), .val (.ref b19), .val (.int (sel &&& (7 : Int32))), .val (.int i33), .unset] []))) (fun _ kk => XS.icmpYes X19.here hx rfl (pc0 := 151) (pc' := 160) rfl (hb hby at_151) rfl (feq hc35).2 (by decide) (by decide) kk) ?_
                  refine go_of (B := (T19.setTop (mkF m 162 #[.val (.int p0), .val (.int p1), .val (.int p2), .val (.int sel), .val (.int xx), .val (.int i1), .val (.int i2), .val (.int i3), .val (.ref b7), .val (.ref b19), .val (.int (sel &&& (7 : Int32))), .val (.int i33), .unset] [(.int i33)]))) (fun _ kk => XS.iload X19.here hx rfl (hb hby at_160) rfl kk) ?_
                  refine go_of (B := (T19.setTop (mkF m 164 #[.val (.int p0), .val (.int p1), .val (.int p2), .val (.int sel), .val (.int xx), .val (.int i1), .val (.int i2), .val (.int i3), .val (.ref b7), .val (.ref b19), .val (.int (sel &&& (7 : Int32))), .val (.int i33), .unset] [(.int i2), (.int i33)]))) (fun _ kk => XS.iload X19.here hx rfl (hb hby at_162) rfl kk) ?_
                  by_cases hc37 : i33 = i2
                  · refine go_of (B := (T19.setTop (mkF m 167 #[.val (.int p0), .val (.int p1), .val (.int p2), .val (.int sel), .val (.int xx), .val (.int i1), .val (.int i2), .val (.int i3), .val (.ref b7), .val (.ref b19), .val (.int (sel &&& (7 : Int32))), .val (.int i33), .unset] []))) (fun _ kk => XS.icmpNo X19.here hx rfl (hb hby at_164) rfl (teq hc37).2 kk) ?_
                    refine go_of (B := (T19.setTop (mkF m 168 #[.val (.int p0), .val (.int p1), .val (.int p2), .val (.int sel), .val (.int xx), .val (.int i1), .val (.int i2), .val (.int i3), .val (.ref b7), .val (.ref b19), .val (.int (sel &&& (7 : Int32))), .val (.int i33), .unset] [(.int (1 : Int32))]))) (fun _ kk => XS.iconst X19.here hx rfl (hb hby at_167) kk) ?_
                    refine go_of (B := (T19.setTop (mkF m 170 #[.val (.int p0), .val (.int p1), .val (.int p2), .val (.int sel), .val (.int xx), .val (.int i1), .val (.int i2), .val (.int i3), .val (.ref b7), .val (.ref b19), .val (.int (sel &&& (7 : Int32))), .val (.int i33), .val (.int (1 : Int32))] []))) (fun _ kk => XS.istore X19.here hx rfl (hb hby at_168) rfl rfl kk) ?_
                    refine go_of (B := (T19.setTop (mkF m 189 #[.val (.int p0), .val (.int p1), .val (.int p2), .val (.int sel), .val (.int xx), .val (.int i1), .val (.int i2), .val (.int i3), .val (.ref b7), .val (.ref b19), .val (.int (sel &&& (7 : Int32))), .val (.int i33), .val (.int (1 : Int32))] []))) (fun _ kk => XS.goto X19.here hx rfl (pc0 := 170) (pc' := 189) rfl (hb hby at_170) (by decide) (by decide) kk) ?_
                    refine go_of (B := (T19.setTop (mkF m 191 #[.val (.int p0), .val (.int p1), .val (.int p2), .val (.int sel), .val (.int xx), .val (.int i1), .val (.int i2), .val (.int i3), .val (.ref b7), .val (.ref b19), .val (.int (sel &&& (7 : Int32))), .val (.int i33), .val (.int (1 : Int32))] [(.ref b19)]))) (fun _ kk => XS.aload X19.here hx rfl (hb hby at_189) rfl rfl kk) ?_
                    refine go_of (B := (T19.setTop (mkF m 193 #[.val (.int p0), .val (.int p1), .val (.int p2), .val (.int sel), .val (.int xx), .val (.int i1), .val (.int i2), .val (.int i3), .val (.ref b7), .val (.ref b19), .val (.int (sel &&& (7 : Int32))), .val (.int i33), .val (.int (1 : Int32))] [(.int i33), (.ref b19)]))) (fun _ kk => XS.iload X19.here hx rfl (hb hby at_191) rfl kk) ?_
                    obtain ⟨_, _, ⟨T38, L38, k38, n38⟩, -, X38, ⟨Lc38, hQ38, l38, y38, z38⟩, st38⟩ := Jvm.LawKit.callS X19 hx (y := (⟨"com/example/libpubid/libpubid/id/Digits", "value", "([BC)I"⟩ : MethodName)) hown (mvT hZ (hw _ (List.mem_of_getElem? (i := 70) rfl))) (mvT hZ (hw _ (List.mem_of_getElem? (i := 71) rfl))) (mvT hZ (hw _ (List.mem_of_getElem? (i := 32) rfl))) (mvT hZ (hw _ (List.mem_of_getElem? (i := 72) rfl))) (by decide) (backOf (W := 0) (rm16 l Z a0 hw [] b19 i33 (own_tab i1 i2 i3) T19.heap n0 (by first | omega | exact own_ne (by omega) | exact own_le (by omega)) F19 rc34) hZ (hw _ (List.mem_of_getElem? (i := 72) rfl)) (hw _ (List.mem_of_getElem? (i := 32) rfl)) (by decide) (by decide)) (g := (mkF m 193 #[.val (.int p0), .val (.int p1), .val (.int p2), .val (.int sel), .val (.int xx), .val (.int i1), .val (.int i2), .val (.int i3), .val (.ref b7), .val (.ref b19), .val (.int (sel &&& (7 : Int32))), .val (.int i33), .val (.int (1 : Int32))] [(.int i33), (.ref b19)])) rfl (by rw [hml]; rfl) (argsL := [(.ref b19), (.int i33)]) (rest := []) (lenOf pd___BC_I rfl) rfl (by show 2 * 0 + _ ≤ _; exact Nat.le_of_eq rfl) (hb hby at_193) (fun _ _ => ⟨rfl, rfl, (by decide : 4 + 0 ≤ _), (by decide : 138 + 0 ≤ _)⟩)
                    dsimp only [Pt.U, Pt.locs, Pt.cells, Pt.slots] at X38 l38 y38 z38 st38 hQ38
                    subst l38 y38 z38
                    obtain ⟨rfl, N38q, e38⟩ := hQ38
                    have N38 := Fr.app N19 N38q
                    refine go_of (B := (T38.setTop (mkF m 196 #[.val (.int p0), .val (.int p1), .val (.int p2), .val (.int sel), .val (.int xx), .val (.int i1), .val (.int i2), .val (.int i3), .val (.ref b7), .val (.ref b19), .val (.int (sel &&& (7 : Int32))), .val (.int i33), .val (.int (1 : Int32))] [(.int (own_val (own_tab i1 i2 i3) i33))]))) (st38) ?_
                    refine go_of (B := (T38.setTop (mkF m 198 #[.val (.int p0), .val (.int p1), .val (.int p2), .val (.int sel), .val (.int xx), .val (.int i1), .val (.int i2), .val (.int i3), .val (.ref b7), .val (.ref b19), .val (.int (sel &&& (7 : Int32))), .val (.int i33), .val (.int (1 : Int32))] [(.int (1 : Int32)), (.int (own_val (own_tab i1 i2 i3) i33))]))) (fun _ kk => XS.iload X38.here hx rfl (hb hby at_196) rfl kk) ?_
                    refine go_of (B := (T38.setTop (mkF m 201 #[.val (.int p0), .val (.int p1), .val (.int p2), .val (.int sel), .val (.int xx), .val (.int i1), .val (.int i2), .val (.int i3), .val (.ref b7), .val (.ref b19), .val (.int (sel &&& (7 : Int32))), .val (.int i33), .val (.int (1 : Int32))] []))) (fun _ kk => XS.icmpNo X38.here hx rfl (hb hby at_198) rfl (teq (by rw [own_valtab _ _ _ _ ri1 ri2 ri3 rc34]; first | (simp_all; done) | (simp [hc4, hc5, hc6, hc35, hc37]; done) | grind : (own_val (own_tab i1 i2 i3) i33) = (1 : Int32))).2 kk) ?_
                    refine go_of (B := (T38.setTop (mkF m 202 #[.val (.int p0), .val (.int p1), .val (.int p2), .val (.int sel), .val (.int xx), .val (.int i1), .val (.int i2), .val (.int i3), .val (.ref b7), .val (.ref b19), .val (.int (sel &&& (7 : Int32))), .val (.int i33), .val (.int (1 : Int32))] [(.int (1 : Int32))]))) (fun _ kk => XS.iconst X38.here hx rfl (hb hby at_201) kk) ?_
                    refine go_of (B := (T38.setTop (mkF m 206 #[.val (.int p0), .val (.int p1), .val (.int p2), .val (.int sel), .val (.int xx), .val (.int i1), .val (.int i2), .val (.int i3), .val (.ref b7), .val (.ref b19), .val (.int (sel &&& (7 : Int32))), .val (.int i33), .val (.int (1 : Int32))] [(.int (1 : Int32))]))) (fun _ kk => XS.goto X38.here hx rfl (pc0 := 202) (pc' := 206) rfl (hb hby at_202) (by decide) (by decide) kk) ?_
                    refine go_end X38 (v := some (.int (nar .boolean (1 : Int32)))) (fun h => by rw [Bd.returns] at h; cases h) Bd.notSynchronized (by decide) (by decide) (Q := (Q_rm0 Z p0 p1 p2 sel xx gC gF h0 n0)) ?_ (fun fs hr => retN X38 hx (t := .boolean) Bd.returns (by simp) (hb hby at_206) hr)
                    show (fun (v : Option Value) (h : Heap) (L : List Loc) => v = some (.int 1) ∧ Fr n0 L) (some (.int (nar .boolean (1 : Int32)))) T38.heap _
                    rw [e38]
                    exact ⟨rfl, N38⟩
                  · refine go_of (B := (T19.setTop (mkF m 173 #[.val (.int p0), .val (.int p1), .val (.int p2), .val (.int sel), .val (.int xx), .val (.int i1), .val (.int i2), .val (.int i3), .val (.ref b7), .val (.ref b19), .val (.int (sel &&& (7 : Int32))), .val (.int i33), .unset] []))) (fun _ kk => XS.icmpYes X19.here hx rfl (pc0 := 164) (pc' := 173) rfl (hb hby at_164) rfl (feq hc37).2 (by decide) (by decide) kk) ?_
                    refine go_of (B := (T19.setTop (mkF m 175 #[.val (.int p0), .val (.int p1), .val (.int p2), .val (.int sel), .val (.int xx), .val (.int i1), .val (.int i2), .val (.int i3), .val (.ref b7), .val (.ref b19), .val (.int (sel &&& (7 : Int32))), .val (.int i33), .unset] [(.int i33)]))) (fun _ kk => XS.iload X19.here hx rfl (hb hby at_173) rfl kk) ?_
                    refine go_of (B := (T19.setTop (mkF m 177 #[.val (.int p0), .val (.int p1), .val (.int p2), .val (.int sel), .val (.int xx), .val (.int i1), .val (.int i2), .val (.int i3), .val (.ref b7), .val (.ref b19), .val (.int (sel &&& (7 : Int32))), .val (.int i33), .unset] [(.int i3), (.int i33)]))) (fun _ kk => XS.iload X19.here hx rfl (hb hby at_175) rfl kk) ?_
                    by_cases hc39 : i33 = i3
                    · refine go_of (B := (T19.setTop (mkF m 180 #[.val (.int p0), .val (.int p1), .val (.int p2), .val (.int sel), .val (.int xx), .val (.int i1), .val (.int i2), .val (.int i3), .val (.ref b7), .val (.ref b19), .val (.int (sel &&& (7 : Int32))), .val (.int i33), .unset] []))) (fun _ kk => XS.icmpNo X19.here hx rfl (hb hby at_177) rfl (teq hc39).2 kk) ?_
                      refine go_of (B := (T19.setTop (mkF m 181 #[.val (.int p0), .val (.int p1), .val (.int p2), .val (.int sel), .val (.int xx), .val (.int i1), .val (.int i2), .val (.int i3), .val (.ref b7), .val (.ref b19), .val (.int (sel &&& (7 : Int32))), .val (.int i33), .unset] [(.int (2 : Int32))]))) (fun _ kk => XS.iconst X19.here hx rfl (hb hby at_180) kk) ?_
                      refine go_of (B := (T19.setTop (mkF m 183 #[.val (.int p0), .val (.int p1), .val (.int p2), .val (.int sel), .val (.int xx), .val (.int i1), .val (.int i2), .val (.int i3), .val (.ref b7), .val (.ref b19), .val (.int (sel &&& (7 : Int32))), .val (.int i33), .val (.int (2 : Int32))] []))) (fun _ kk => XS.istore X19.here hx rfl (hb hby at_181) rfl rfl kk) ?_
                      refine go_of (B := (T19.setTop (mkF m 189 #[.val (.int p0), .val (.int p1), .val (.int p2), .val (.int sel), .val (.int xx), .val (.int i1), .val (.int i2), .val (.int i3), .val (.ref b7), .val (.ref b19), .val (.int (sel &&& (7 : Int32))), .val (.int i33), .val (.int (2 : Int32))] []))) (fun _ kk => XS.goto X19.here hx rfl (pc0 := 183) (pc' := 189) rfl (hb hby at_183) (by decide) (by decide) kk) ?_
                      refine go_of (B := (T19.setTop (mkF m 191 #[.val (.int p0), .val (.int p1), .val (.int p2), .val (.int sel), .val (.int xx), .val (.int i1), .val (.int i2), .val (.int i3), .val (.ref b7), .val (.ref b19), .val (.int (sel &&& (7 : Int32))), .val (.int i33), .val (.int (2 : Int32))] [(.ref b19)]))) (fun _ kk => XS.aload X19.here hx rfl (hb hby at_189) rfl rfl kk) ?_
                      refine go_of (B := (T19.setTop (mkF m 193 #[.val (.int p0), .val (.int p1), .val (.int p2), .val (.int sel), .val (.int xx), .val (.int i1), .val (.int i2), .val (.int i3), .val (.ref b7), .val (.ref b19), .val (.int (sel &&& (7 : Int32))), .val (.int i33), .val (.int (2 : Int32))] [(.int i33), (.ref b19)]))) (fun _ kk => XS.iload X19.here hx rfl (hb hby at_191) rfl kk) ?_
                      obtain ⟨_, _, ⟨T40, L40, k40, n40⟩, -, X40, ⟨Lc40, hQ40, l40, y40, z40⟩, st40⟩ := Jvm.LawKit.callS X19 hx (y := (⟨"com/example/libpubid/libpubid/id/Digits", "value", "([BC)I"⟩ : MethodName)) hown (mvT hZ (hw _ (List.mem_of_getElem? (i := 70) rfl))) (mvT hZ (hw _ (List.mem_of_getElem? (i := 71) rfl))) (mvT hZ (hw _ (List.mem_of_getElem? (i := 32) rfl))) (mvT hZ (hw _ (List.mem_of_getElem? (i := 72) rfl))) (by decide) (backOf (W := 0) (rm16 l Z a0 hw [] b19 i33 (own_tab i1 i2 i3) T19.heap n0 (by first | omega | exact own_ne (by omega) | exact own_le (by omega)) F19 rc34) hZ (hw _ (List.mem_of_getElem? (i := 72) rfl)) (hw _ (List.mem_of_getElem? (i := 32) rfl)) (by decide) (by decide)) (g := (mkF m 193 #[.val (.int p0), .val (.int p1), .val (.int p2), .val (.int sel), .val (.int xx), .val (.int i1), .val (.int i2), .val (.int i3), .val (.ref b7), .val (.ref b19), .val (.int (sel &&& (7 : Int32))), .val (.int i33), .val (.int (2 : Int32))] [(.int i33), (.ref b19)])) rfl (by rw [hml]; rfl) (argsL := [(.ref b19), (.int i33)]) (rest := []) (lenOf pd___BC_I rfl) rfl (by show 2 * 0 + _ ≤ _; exact Nat.le_of_eq rfl) (hb hby at_193) (fun _ _ => ⟨rfl, rfl, (by decide : 4 + 0 ≤ _), (by decide : 138 + 0 ≤ _)⟩)
                      dsimp only [Pt.U, Pt.locs, Pt.cells, Pt.slots] at X40 l40 y40 z40 st40 hQ40
                      subst l40 y40 z40
                      obtain ⟨rfl, N40q, e40⟩ := hQ40
                      have N40 := Fr.app N19 N40q
                      refine go_of (B := (T40.setTop (mkF m 196 #[.val (.int p0), .val (.int p1), .val (.int p2), .val (.int sel), .val (.int xx), .val (.int i1), .val (.int i2), .val (.int i3), .val (.ref b7), .val (.ref b19), .val (.int (sel &&& (7 : Int32))), .val (.int i33), .val (.int (2 : Int32))] [(.int (own_val (own_tab i1 i2 i3) i33))]))) (st40) ?_
                      refine go_of (B := (T40.setTop (mkF m 198 #[.val (.int p0), .val (.int p1), .val (.int p2), .val (.int sel), .val (.int xx), .val (.int i1), .val (.int i2), .val (.int i3), .val (.ref b7), .val (.ref b19), .val (.int (sel &&& (7 : Int32))), .val (.int i33), .val (.int (2 : Int32))] [(.int (2 : Int32)), (.int (own_val (own_tab i1 i2 i3) i33))]))) (fun _ kk => XS.iload X40.here hx rfl (hb hby at_196) rfl kk) ?_
                      refine go_of (B := (T40.setTop (mkF m 201 #[.val (.int p0), .val (.int p1), .val (.int p2), .val (.int sel), .val (.int xx), .val (.int i1), .val (.int i2), .val (.int i3), .val (.ref b7), .val (.ref b19), .val (.int (sel &&& (7 : Int32))), .val (.int i33), .val (.int (2 : Int32))] []))) (fun _ kk => XS.icmpNo X40.here hx rfl (hb hby at_198) rfl (teq (by rw [own_valtab _ _ _ _ ri1 ri2 ri3 rc34]; first | (simp_all; done) | (simp [hc4, hc5, hc6, hc35, hc37, hc39]; done) | grind : (own_val (own_tab i1 i2 i3) i33) = (2 : Int32))).2 kk) ?_
                      refine go_of (B := (T40.setTop (mkF m 202 #[.val (.int p0), .val (.int p1), .val (.int p2), .val (.int sel), .val (.int xx), .val (.int i1), .val (.int i2), .val (.int i3), .val (.ref b7), .val (.ref b19), .val (.int (sel &&& (7 : Int32))), .val (.int i33), .val (.int (2 : Int32))] [(.int (1 : Int32))]))) (fun _ kk => XS.iconst X40.here hx rfl (hb hby at_201) kk) ?_
                      refine go_of (B := (T40.setTop (mkF m 206 #[.val (.int p0), .val (.int p1), .val (.int p2), .val (.int sel), .val (.int xx), .val (.int i1), .val (.int i2), .val (.int i3), .val (.ref b7), .val (.ref b19), .val (.int (sel &&& (7 : Int32))), .val (.int i33), .val (.int (2 : Int32))] [(.int (1 : Int32))]))) (fun _ kk => XS.goto X40.here hx rfl (pc0 := 202) (pc' := 206) rfl (hb hby at_202) (by decide) (by decide) kk) ?_
                      refine go_end X40 (v := some (.int (nar .boolean (1 : Int32)))) (fun h => by rw [Bd.returns] at h; cases h) Bd.notSynchronized (by decide) (by decide) (Q := (Q_rm0 Z p0 p1 p2 sel xx gC gF h0 n0)) ?_ (fun fs hr => retN X40 hx (t := .boolean) Bd.returns (by simp) (hb hby at_206) hr)
                      show (fun (v : Option Value) (h : Heap) (L : List Loc) => v = some (.int 1) ∧ Fr n0 L) (some (.int (nar .boolean (1 : Int32)))) T40.heap _
                      rw [e40]
                      exact ⟨rfl, N40⟩
                    · refine go_of (B := (T19.setTop (mkF m 186 #[.val (.int p0), .val (.int p1), .val (.int p2), .val (.int sel), .val (.int xx), .val (.int i1), .val (.int i2), .val (.int i3), .val (.ref b7), .val (.ref b19), .val (.int (sel &&& (7 : Int32))), .val (.int i33), .unset] []))) (fun _ kk => XS.icmpYes X19.here hx rfl (pc0 := 177) (pc' := 186) rfl (hb hby at_177) rfl (feq hc39).2 (by decide) (by decide) kk) ?_
                      refine go_of (B := (T19.setTop (mkF m 187 #[.val (.int p0), .val (.int p1), .val (.int p2), .val (.int sel), .val (.int xx), .val (.int i1), .val (.int i2), .val (.int i3), .val (.ref b7), .val (.ref b19), .val (.int (sel &&& (7 : Int32))), .val (.int i33), .unset] [(.int (-1 : Int32))]))) (fun _ kk => XS.iconst X19.here hx rfl (hb hby at_186) kk) ?_
                      refine go_of (B := (T19.setTop (mkF m 189 #[.val (.int p0), .val (.int p1), .val (.int p2), .val (.int sel), .val (.int xx), .val (.int i1), .val (.int i2), .val (.int i3), .val (.ref b7), .val (.ref b19), .val (.int (sel &&& (7 : Int32))), .val (.int i33), .val (.int (-1 : Int32))] []))) (fun _ kk => XS.istore X19.here hx rfl (hb hby at_187) rfl rfl kk) ?_
                      refine go_of (B := (T19.setTop (mkF m 191 #[.val (.int p0), .val (.int p1), .val (.int p2), .val (.int sel), .val (.int xx), .val (.int i1), .val (.int i2), .val (.int i3), .val (.ref b7), .val (.ref b19), .val (.int (sel &&& (7 : Int32))), .val (.int i33), .val (.int (-1 : Int32))] [(.ref b19)]))) (fun _ kk => XS.aload X19.here hx rfl (hb hby at_189) rfl rfl kk) ?_
                      refine go_of (B := (T19.setTop (mkF m 193 #[.val (.int p0), .val (.int p1), .val (.int p2), .val (.int sel), .val (.int xx), .val (.int i1), .val (.int i2), .val (.int i3), .val (.ref b7), .val (.ref b19), .val (.int (sel &&& (7 : Int32))), .val (.int i33), .val (.int (-1 : Int32))] [(.int i33), (.ref b19)]))) (fun _ kk => XS.iload X19.here hx rfl (hb hby at_191) rfl kk) ?_
                      obtain ⟨_, _, ⟨T41, L41, k41, n41⟩, -, X41, ⟨Lc41, hQ41, l41, y41, z41⟩, st41⟩ := Jvm.LawKit.callS X19 hx (y := (⟨"com/example/libpubid/libpubid/id/Digits", "value", "([BC)I"⟩ : MethodName)) hown (mvT hZ (hw _ (List.mem_of_getElem? (i := 70) rfl))) (mvT hZ (hw _ (List.mem_of_getElem? (i := 71) rfl))) (mvT hZ (hw _ (List.mem_of_getElem? (i := 32) rfl))) (mvT hZ (hw _ (List.mem_of_getElem? (i := 72) rfl))) (by decide) (backOf (W := 0) (rm16 l Z a0 hw [] b19 i33 (own_tab i1 i2 i3) T19.heap n0 (by first | omega | exact own_ne (by omega) | exact own_le (by omega)) F19 rc34) hZ (hw _ (List.mem_of_getElem? (i := 72) rfl)) (hw _ (List.mem_of_getElem? (i := 32) rfl)) (by decide) (by decide)) (g := (mkF m 193 #[.val (.int p0), .val (.int p1), .val (.int p2), .val (.int sel), .val (.int xx), .val (.int i1), .val (.int i2), .val (.int i3), .val (.ref b7), .val (.ref b19), .val (.int (sel &&& (7 : Int32))), .val (.int i33), .val (.int (-1 : Int32))] [(.int i33), (.ref b19)])) rfl (by rw [hml]; rfl) (argsL := [(.ref b19), (.int i33)]) (rest := []) (lenOf pd___BC_I rfl) rfl (by show 2 * 0 + _ ≤ _; exact Nat.le_of_eq rfl) (hb hby at_193) (fun _ _ => ⟨rfl, rfl, (by decide : 4 + 0 ≤ _), (by decide : 138 + 0 ≤ _)⟩)
                      dsimp only [Pt.U, Pt.locs, Pt.cells, Pt.slots] at X41 l41 y41 z41 st41 hQ41
                      subst l41 y41 z41
                      obtain ⟨rfl, N41q, e41⟩ := hQ41
                      have N41 := Fr.app N19 N41q
                      refine go_of (B := (T41.setTop (mkF m 196 #[.val (.int p0), .val (.int p1), .val (.int p2), .val (.int sel), .val (.int xx), .val (.int i1), .val (.int i2), .val (.int i3), .val (.ref b7), .val (.ref b19), .val (.int (sel &&& (7 : Int32))), .val (.int i33), .val (.int (-1 : Int32))] [(.int (own_val (own_tab i1 i2 i3) i33))]))) (st41) ?_
                      refine go_of (B := (T41.setTop (mkF m 198 #[.val (.int p0), .val (.int p1), .val (.int p2), .val (.int sel), .val (.int xx), .val (.int i1), .val (.int i2), .val (.int i3), .val (.ref b7), .val (.ref b19), .val (.int (sel &&& (7 : Int32))), .val (.int i33), .val (.int (-1 : Int32))] [(.int (-1 : Int32)), (.int (own_val (own_tab i1 i2 i3) i33))]))) (fun _ kk => XS.iload X41.here hx rfl (hb hby at_196) rfl kk) ?_
                      refine go_of (B := (T41.setTop (mkF m 201 #[.val (.int p0), .val (.int p1), .val (.int p2), .val (.int sel), .val (.int xx), .val (.int i1), .val (.int i2), .val (.int i3), .val (.ref b7), .val (.ref b19), .val (.int (sel &&& (7 : Int32))), .val (.int i33), .val (.int (-1 : Int32))] []))) (fun _ kk => XS.icmpNo X41.here hx rfl (hb hby at_198) rfl (teq (by rw [own_valtab _ _ _ _ ri1 ri2 ri3 rc34]; first | (simp_all; done) | (simp [hc4, hc5, hc6, hc35, hc37, hc39]; done) | grind : (own_val (own_tab i1 i2 i3) i33) = (-1 : Int32))).2 kk) ?_
                      refine go_of (B := (T41.setTop (mkF m 202 #[.val (.int p0), .val (.int p1), .val (.int p2), .val (.int sel), .val (.int xx), .val (.int i1), .val (.int i2), .val (.int i3), .val (.ref b7), .val (.ref b19), .val (.int (sel &&& (7 : Int32))), .val (.int i33), .val (.int (-1 : Int32))] [(.int (1 : Int32))]))) (fun _ kk => XS.iconst X41.here hx rfl (hb hby at_201) kk) ?_
                      refine go_of (B := (T41.setTop (mkF m 206 #[.val (.int p0), .val (.int p1), .val (.int p2), .val (.int sel), .val (.int xx), .val (.int i1), .val (.int i2), .val (.int i3), .val (.ref b7), .val (.ref b19), .val (.int (sel &&& (7 : Int32))), .val (.int i33), .val (.int (-1 : Int32))] [(.int (1 : Int32))]))) (fun _ kk => XS.goto X41.here hx rfl (pc0 := 202) (pc' := 206) rfl (hb hby at_202) (by decide) (by decide) kk) ?_
                      refine go_end X41 (v := some (.int (nar .boolean (1 : Int32)))) (fun h => by rw [Bd.returns] at h; cases h) Bd.notSynchronized (by decide) (by decide) (Q := (Q_rm0 Z p0 p1 p2 sel xx gC gF h0 n0)) ?_ (fun fs hr => retN X41 hx (t := .boolean) Bd.returns (by simp) (hb hby at_206) hr)
                      show (fun (v : Option Value) (h : Heap) (L : List Loc) => v = some (.int 1) ∧ Fr n0 L) (some (.int (nar .boolean (1 : Int32)))) T41.heap _
                      rw [e41]
                      exact ⟨rfl, N41⟩
              · refine go_of (B := (T19.setTop (mkF m 142 #[.val (.int p0), .val (.int p1), .val (.int p2), .val (.int sel), .val (.int xx), .val (.int i1), .val (.int i2), .val (.int i3), .val (.ref b7), .val (.ref b19), .val (.int (sel &&& (7 : Int32))), .unset, .unset] []))) (fun _ kk => XS.icmpYes X19.here hx rfl (pc0 := 128) (pc' := 142) rfl (hb hby at_128) rfl (feq hc32).2 (by decide) (by decide) kk) ?_
                refine go_of (B := (T19.setTop (mkF m 144 #[.val (.int p0), .val (.int p1), .val (.int p2), .val (.int sel), .val (.int xx), .val (.int i1), .val (.int i2), .val (.int i3), .val (.ref b7), .val (.ref b19), .val (.int (sel &&& (7 : Int32))), .unset, .unset] [(.int xx)]))) (fun _ kk => XS.iload X19.here hx rfl (hb hby at_142) rfl kk) ?_
                refine go_of (B := (T19.setTop (mkF m 145 #[.val (.int p0), .val (.int p1), .val (.int p2), .val (.int sel), .val (.int xx), .val (.int i1), .val (.int i2), .val (.int i3), .val (.ref b7), .val (.ref b19), .val (.int (sel &&& (7 : Int32))), .unset, .unset] [(.int (xx.toUInt32.toUInt16.toUInt32.toInt32))]))) (fun _ kk => XS.i2c X19.here hx rfl (hb hby at_144) rfl kk) ?_
                refine go_of (B := (T19.setTop (mkF m 147 #[.val (.int p0), .val (.int p1), .val (.int p2), .val (.int sel), .val (.int xx), .val (.int i1), .val (.int i2), .val (.int i3), .val (.ref b7), .val (.ref b19), .val (.int (sel &&& (7 : Int32))), .val (.int (xx.toUInt32.toUInt16.toUInt32.toInt32)), .unset] []))) (fun _ kk => XS.istore X19.here hx rfl (hb hby at_145) rfl rfl kk) ?_
                generalize hi42 : (xx.toUInt32.toUInt16.toUInt32.toInt32) = i42
                have rc43 : ¬ i42 < 0 := by first | (rw [← hi42]; exact (own_c127 xx).1) | (rw [← hi42]; exact own_c16 xx)
                refine go_of (B := (T19.setTop (mkF m 149 #[.val (.int p0), .val (.int p1), .val (.int p2), .val (.int sel), .val (.int xx), .val (.int i1), .val (.int i2), .val (.int i3), .val (.ref b7), .val (.ref b19), .val (.int (sel &&& (7 : Int32))), .val (.int i42), .unset] [(.int i42)]))) (fun _ kk => XS.iload X19.here hx rfl (hb hby at_147) rfl kk) ?_
                refine go_of (B := (T19.setTop (mkF m 151 #[.val (.int p0), .val (.int p1), .val (.int p2), .val (.int sel), .val (.int xx), .val (.int i1), .val (.int i2), .val (.int i3), .val (.ref b7), .val (.ref b19), .val (.int (sel &&& (7 : Int32))), .val (.int i42), .unset] [(.int i1), (.int i42)]))) (fun _ kk => XS.iload X19.here hx rfl (hb hby at_149) rfl kk) ?_
                by_cases hc44 : i42 = i1
                · refine go_of (B := (T19.setTop (mkF m 154 #[.val (.int p0), .val (.int p1), .val (.int p2), .val (.int sel), .val (.int xx), .val (.int i1), .val (.int i2), .val (.int i3), .val (.ref b7), .val (.ref b19), .val (.int (sel &&& (7 : Int32))), .val (.int i42), .unset] []))) (fun _ kk => XS.icmpNo X19.here hx rfl (hb hby at_151) rfl (teq hc44).2 kk) ?_
                  refine go_of (B := (T19.setTop (mkF m 155 #[.val (.int p0), .val (.int p1), .val (.int p2), .val (.int sel), .val (.int xx), .val (.int i1), .val (.int i2), .val (.int i3), .val (.ref b7), .val (.ref b19), .val (.int (sel &&& (7 : Int32))), .val (.int i42), .unset] [(.int (0 : Int32))]))) (fun _ kk => XS.iconst X19.here hx rfl (hb hby at_154) kk) ?_
                  refine go_of (B := (T19.setTop (mkF m 157 #[.val (.int p0), .val (.int p1), .val (.int p2), .val (.int sel), .val (.int xx), .val (.int i1), .val (.int i2), .val (.int i3), .val (.ref b7), .val (.ref b19), .val (.int (sel &&& (7 : Int32))), .val (.int i42), .val (.int (0 : Int32))] []))) (fun _ kk => XS.istore X19.here hx rfl (hb hby at_155) rfl rfl kk) ?_
                  refine go_of (B := (T19.setTop (mkF m 189 #[.val (.int p0), .val (.int p1), .val (.int p2), .val (.int sel), .val (.int xx), .val (.int i1), .val (.int i2), .val (.int i3), .val (.ref b7), .val (.ref b19), .val (.int (sel &&& (7 : Int32))), .val (.int i42), .val (.int (0 : Int32))] []))) (fun _ kk => XS.goto X19.here hx rfl (pc0 := 157) (pc' := 189) rfl (hb hby at_157) (by decide) (by decide) kk) ?_
                  refine go_of (B := (T19.setTop (mkF m 191 #[.val (.int p0), .val (.int p1), .val (.int p2), .val (.int sel), .val (.int xx), .val (.int i1), .val (.int i2), .val (.int i3), .val (.ref b7), .val (.ref b19), .val (.int (sel &&& (7 : Int32))), .val (.int i42), .val (.int (0 : Int32))] [(.ref b19)]))) (fun _ kk => XS.aload X19.here hx rfl (hb hby at_189) rfl rfl kk) ?_
                  refine go_of (B := (T19.setTop (mkF m 193 #[.val (.int p0), .val (.int p1), .val (.int p2), .val (.int sel), .val (.int xx), .val (.int i1), .val (.int i2), .val (.int i3), .val (.ref b7), .val (.ref b19), .val (.int (sel &&& (7 : Int32))), .val (.int i42), .val (.int (0 : Int32))] [(.int i42), (.ref b19)]))) (fun _ kk => XS.iload X19.here hx rfl (hb hby at_191) rfl kk) ?_
                  obtain ⟨_, _, ⟨T45, L45, k45, n45⟩, -, X45, ⟨Lc45, hQ45, l45, y45, z45⟩, st45⟩ := Jvm.LawKit.callS X19 hx (y := (⟨"com/example/libpubid/libpubid/id/Digits", "value", "([BC)I"⟩ : MethodName)) hown (mvT hZ (hw _ (List.mem_of_getElem? (i := 70) rfl))) (mvT hZ (hw _ (List.mem_of_getElem? (i := 71) rfl))) (mvT hZ (hw _ (List.mem_of_getElem? (i := 32) rfl))) (mvT hZ (hw _ (List.mem_of_getElem? (i := 72) rfl))) (by decide) (backOf (W := 0) (rm16 l Z a0 hw [] b19 i42 (own_tab i1 i2 i3) T19.heap n0 (by first | omega | exact own_ne (by omega) | exact own_le (by omega)) F19 rc43) hZ (hw _ (List.mem_of_getElem? (i := 72) rfl)) (hw _ (List.mem_of_getElem? (i := 32) rfl)) (by decide) (by decide)) (g := (mkF m 193 #[.val (.int p0), .val (.int p1), .val (.int p2), .val (.int sel), .val (.int xx), .val (.int i1), .val (.int i2), .val (.int i3), .val (.ref b7), .val (.ref b19), .val (.int (sel &&& (7 : Int32))), .val (.int i42), .val (.int (0 : Int32))] [(.int i42), (.ref b19)])) rfl (by rw [hml]; rfl) (argsL := [(.ref b19), (.int i42)]) (rest := []) (lenOf pd___BC_I rfl) rfl (by show 2 * 0 + _ ≤ _; exact Nat.le_of_eq rfl) (hb hby at_193) (fun _ _ => ⟨rfl, rfl, (by decide : 4 + 0 ≤ _), (by decide : 138 + 0 ≤ _)⟩)
                  dsimp only [Pt.U, Pt.locs, Pt.cells, Pt.slots] at X45 l45 y45 z45 st45 hQ45
                  subst l45 y45 z45
                  obtain ⟨rfl, N45q, e45⟩ := hQ45
                  have N45 := Fr.app N19 N45q
                  refine go_of (B := (T45.setTop (mkF m 196 #[.val (.int p0), .val (.int p1), .val (.int p2), .val (.int sel), .val (.int xx), .val (.int i1), .val (.int i2), .val (.int i3), .val (.ref b7), .val (.ref b19), .val (.int (sel &&& (7 : Int32))), .val (.int i42), .val (.int (0 : Int32))] [(.int (own_val (own_tab i1 i2 i3) i42))]))) (st45) ?_
                  refine go_of (B := (T45.setTop (mkF m 198 #[.val (.int p0), .val (.int p1), .val (.int p2), .val (.int sel), .val (.int xx), .val (.int i1), .val (.int i2), .val (.int i3), .val (.ref b7), .val (.ref b19), .val (.int (sel &&& (7 : Int32))), .val (.int i42), .val (.int (0 : Int32))] [(.int (0 : Int32)), (.int (own_val (own_tab i1 i2 i3) i42))]))) (fun _ kk => XS.iload X45.here hx rfl (hb hby at_196) rfl kk) ?_
                  refine go_of (B := (T45.setTop (mkF m 201 #[.val (.int p0), .val (.int p1), .val (.int p2), .val (.int sel), .val (.int xx), .val (.int i1), .val (.int i2), .val (.int i3), .val (.ref b7), .val (.ref b19), .val (.int (sel &&& (7 : Int32))), .val (.int i42), .val (.int (0 : Int32))] []))) (fun _ kk => XS.icmpNo X45.here hx rfl (hb hby at_198) rfl (teq (by rw [own_valtab _ _ _ _ ri1 ri2 ri3 rc43]; first | (simp_all; done) | (simp [hc4, hc5, hc6, hc44]; done) | grind : (own_val (own_tab i1 i2 i3) i42) = (0 : Int32))).2 kk) ?_
                  refine go_of (B := (T45.setTop (mkF m 202 #[.val (.int p0), .val (.int p1), .val (.int p2), .val (.int sel), .val (.int xx), .val (.int i1), .val (.int i2), .val (.int i3), .val (.ref b7), .val (.ref b19), .val (.int (sel &&& (7 : Int32))), .val (.int i42), .val (.int (0 : Int32))] [(.int (1 : Int32))]))) (fun _ kk => XS.iconst X45.here hx rfl (hb hby at_201) kk) ?_
                  refine go_of (B := (T45.setTop (mkF m 206 #[.val (.int p0), .val (.int p1), .val (.int p2), .val (.int sel), .val (.int xx), .val (.int i1), .val (.int i2), .val (.int i3), .val (.ref b7), .val (.ref b19), .val (.int (sel &&& (7 : Int32))), .val (.int i42), .val (.int (0 : Int32))] [(.int (1 : Int32))]))) (fun _ kk => XS.goto X45.here hx rfl (pc0 := 202) (pc' := 206) rfl (hb hby at_202) (by decide) (by decide) kk) ?_
                  refine go_end X45 (v := some (.int (nar .boolean (1 : Int32)))) (fun h => by rw [Bd.returns] at h; cases h) Bd.notSynchronized (by decide) (by decide) (Q := (Q_rm0 Z p0 p1 p2 sel xx gC gF h0 n0)) ?_ (fun fs hr => retN X45 hx (t := .boolean) Bd.returns (by simp) (hb hby at_206) hr)
                  show (fun (v : Option Value) (h : Heap) (L : List Loc) => v = some (.int 1) ∧ Fr n0 L) (some (.int (nar .boolean (1 : Int32)))) T45.heap _
                  rw [e45]
                  exact ⟨rfl, N45⟩
                · refine go_of (B := (T19.setTop (mkF m 160 #[.val (.int p0), .val (.int p1), .val (.int p2), .val (.int sel), .val (.int xx), .val (.int i1), .val (.int i2), .val (.int i3), .val (.ref b7), .val (.ref b19), .val (.int (sel &&& (7 : Int32))), .val (.int i42), .unset] []))) (fun _ kk => XS.icmpYes X19.here hx rfl (pc0 := 151) (pc' := 160) rfl (hb hby at_151) rfl (feq hc44).2 (by decide) (by decide) kk) ?_
                  refine go_of (B := (T19.setTop (mkF m 162 #[.val (.int p0), .val (.int p1), .val (.int p2), .val (.int sel), .val (.int xx), .val (.int i1), .val (.int i2), .val (.int i3), .val (.ref b7), .val (.ref b19), .val (.int (sel &&& (7 : Int32))), .val (.int i42), .unset] [(.int i42)]))) (fun _ kk => XS.iload X19.here hx rfl (hb hby at_160) rfl kk) ?_
                  refine go_of (B := (T19.setTop (mkF m 164 #[.val (.int p0), .val (.int p1), .val (.int p2), .val (.int sel), .val (.int xx), .val (.int i1), .val (.int i2), .val (.int i3), .val (.ref b7), .val (.ref b19), .val (.int (sel &&& (7 : Int32))), .val (.int i42), .unset] [(.int i2), (.int i42)]))) (fun _ kk => XS.iload X19.here hx rfl (hb hby at_162) rfl kk) ?_
                  by_cases hc46 : i42 = i2
                  · refine go_of (B := (T19.setTop (mkF m 167 #[.val (.int p0), .val (.int p1), .val (.int p2), .val (.int sel), .val (.int xx), .val (.int i1), .val (.int i2), .val (.int i3), .val (.ref b7), .val (.ref b19), .val (.int (sel &&& (7 : Int32))), .val (.int i42), .unset] []))) (fun _ kk => XS.icmpNo X19.here hx rfl (hb hby at_164) rfl (teq hc46).2 kk) ?_
                    refine go_of (B := (T19.setTop (mkF m 168 #[.val (.int p0), .val (.int p1), .val (.int p2), .val (.int sel), .val (.int xx), .val (.int i1), .val (.int i2), .val (.int i3), .val (.ref b7), .val (.ref b19), .val (.int (sel &&& (7 : Int32))), .val (.int i42), .unset] [(.int (1 : Int32))]))) (fun _ kk => XS.iconst X19.here hx rfl (hb hby at_167) kk) ?_
                    refine go_of (B := (T19.setTop (mkF m 170 #[.val (.int p0), .val (.int p1), .val (.int p2), .val (.int sel), .val (.int xx), .val (.int i1), .val (.int i2), .val (.int i3), .val (.ref b7), .val (.ref b19), .val (.int (sel &&& (7 : Int32))), .val (.int i42), .val (.int (1 : Int32))] []))) (fun _ kk => XS.istore X19.here hx rfl (hb hby at_168) rfl rfl kk) ?_
                    refine go_of (B := (T19.setTop (mkF m 189 #[.val (.int p0), .val (.int p1), .val (.int p2), .val (.int sel), .val (.int xx), .val (.int i1), .val (.int i2), .val (.int i3), .val (.ref b7), .val (.ref b19), .val (.int (sel &&& (7 : Int32))), .val (.int i42), .val (.int (1 : Int32))] []))) (fun _ kk => XS.goto X19.here hx rfl (pc0 := 170) (pc' := 189) rfl (hb hby at_170) (by decide) (by decide) kk) ?_
                    refine go_of (B := (T19.setTop (mkF m 191 #[.val (.int p0), .val (.int p1), .val (.int p2), .val (.int sel), .val (.int xx), .val (.int i1), .val (.int i2), .val (.int i3), .val (.ref b7), .val (.ref b19), .val (.int (sel &&& (7 : Int32))), .val (.int i42), .val (.int (1 : Int32))] [(.ref b19)]))) (fun _ kk => XS.aload X19.here hx rfl (hb hby at_189) rfl rfl kk) ?_
                    refine go_of (B := (T19.setTop (mkF m 193 #[.val (.int p0), .val (.int p1), .val (.int p2), .val (.int sel), .val (.int xx), .val (.int i1), .val (.int i2), .val (.int i3), .val (.ref b7), .val (.ref b19), .val (.int (sel &&& (7 : Int32))), .val (.int i42), .val (.int (1 : Int32))] [(.int i42), (.ref b19)]))) (fun _ kk => XS.iload X19.here hx rfl (hb hby at_191) rfl kk) ?_
                    obtain ⟨_, _, ⟨T47, L47, k47, n47⟩, -, X47, ⟨Lc47, hQ47, l47, y47, z47⟩, st47⟩ := Jvm.LawKit.callS X19 hx (y := (⟨"com/example/libpubid/libpubid/id/Digits", "value", "([BC)I"⟩ : MethodName)) hown (mvT hZ (hw _ (List.mem_of_getElem? (i := 70) rfl))) (mvT hZ (hw _ (List.mem_of_getElem? (i := 71) rfl))) (mvT hZ (hw _ (List.mem_of_getElem? (i := 32) rfl))) (mvT hZ (hw _ (List.mem_of_getElem? (i := 72) rfl))) (by decide) (backOf (W := 0) (rm16 l Z a0 hw [] b19 i42 (own_tab i1 i2 i3) T19.heap n0 (by first | omega | exact own_ne (by omega) | exact own_le (by omega)) F19 rc43) hZ (hw _ (List.mem_of_getElem? (i := 72) rfl)) (hw _ (List.mem_of_getElem? (i := 32) rfl)) (by decide) (by decide)) (g := (mkF m 193 #[.val (.int p0), .val (.int p1), .val (.int p2), .val (.int sel), .val (.int xx), .val (.int i1), .val (.int i2), .val (.int i3), .val (.ref b7), .val (.ref b19), .val (.int (sel &&& (7 : Int32))), .val (.int i42), .val (.int (1 : Int32))] [(.int i42), (.ref b19)])) rfl (by rw [hml]; rfl) (argsL := [(.ref b19), (.int i42)]) (rest := []) (lenOf pd___BC_I rfl) rfl (by show 2 * 0 + _ ≤ _; exact Nat.le_of_eq rfl) (hb hby at_193) (fun _ _ => ⟨rfl, rfl, (by decide : 4 + 0 ≤ _), (by decide : 138 + 0 ≤ _)⟩)
                    dsimp only [Pt.U, Pt.locs, Pt.cells, Pt.slots] at X47 l47 y47 z47 st47 hQ47
                    subst l47 y47 z47
                    obtain ⟨rfl, N47q, e47⟩ := hQ47
                    have N47 := Fr.app N19 N47q
                    refine go_of (B := (T47.setTop (mkF m 196 #[.val (.int p0), .val (.int p1), .val (.int p2), .val (.int sel), .val (.int xx), .val (.int i1), .val (.int i2), .val (.int i3), .val (.ref b7), .val (.ref b19), .val (.int (sel &&& (7 : Int32))), .val (.int i42), .val (.int (1 : Int32))] [(.int (own_val (own_tab i1 i2 i3) i42))]))) (st47) ?_
                    refine go_of (B := (T47.setTop (mkF m 198 #[.val (.int p0), .val (.int p1), .val (.int p2), .val (.int sel), .val (.int xx), .val (.int i1), .val (.int i2), .val (.int i3), .val (.ref b7), .val (.ref b19), .val (.int (sel &&& (7 : Int32))), .val (.int i42), .val (.int (1 : Int32))] [(.int (1 : Int32)), (.int (own_val (own_tab i1 i2 i3) i42))]))) (fun _ kk => XS.iload X47.here hx rfl (hb hby at_196) rfl kk) ?_
                    refine go_of (B := (T47.setTop (mkF m 201 #[.val (.int p0), .val (.int p1), .val (.int p2), .val (.int sel), .val (.int xx), .val (.int i1), .val (.int i2), .val (.int i3), .val (.ref b7), .val (.ref b19), .val (.int (sel &&& (7 : Int32))), .val (.int i42), .val (.int (1 : Int32))] []))) (fun _ kk => XS.icmpNo X47.here hx rfl (hb hby at_198) rfl (teq (by rw [own_valtab _ _ _ _ ri1 ri2 ri3 rc43]; first | (simp_all; done) | (simp [hc4, hc5, hc6, hc44, hc46]; done) | grind : (own_val (own_tab i1 i2 i3) i42) = (1 : Int32))).2 kk) ?_
                    refine go_of (B := (T47.setTop (mkF m 202 #[.val (.int p0), .val (.int p1), .val (.int p2), .val (.int sel), .val (.int xx), .val (.int i1), .val (.int i2), .val (.int i3), .val (.ref b7), .val (.ref b19), .val (.int (sel &&& (7 : Int32))), .val (.int i42), .val (.int (1 : Int32))] [(.int (1 : Int32))]))) (fun _ kk => XS.iconst X47.here hx rfl (hb hby at_201) kk) ?_
                    refine go_of (B := (T47.setTop (mkF m 206 #[.val (.int p0), .val (.int p1), .val (.int p2), .val (.int sel), .val (.int xx), .val (.int i1), .val (.int i2), .val (.int i3), .val (.ref b7), .val (.ref b19), .val (.int (sel &&& (7 : Int32))), .val (.int i42), .val (.int (1 : Int32))] [(.int (1 : Int32))]))) (fun _ kk => XS.goto X47.here hx rfl (pc0 := 202) (pc' := 206) rfl (hb hby at_202) (by decide) (by decide) kk) ?_
                    refine go_end X47 (v := some (.int (nar .boolean (1 : Int32)))) (fun h => by rw [Bd.returns] at h; cases h) Bd.notSynchronized (by decide) (by decide) (Q := (Q_rm0 Z p0 p1 p2 sel xx gC gF h0 n0)) ?_ (fun fs hr => retN X47 hx (t := .boolean) Bd.returns (by simp) (hb hby at_206) hr)
                    show (fun (v : Option Value) (h : Heap) (L : List Loc) => v = some (.int 1) ∧ Fr n0 L) (some (.int (nar .boolean (1 : Int32)))) T47.heap _
                    rw [e47]
                    exact ⟨rfl, N47⟩
                  · refine go_of (B := (T19.setTop (mkF m 173 #[.val (.int p0), .val (.int p1), .val (.int p2), .val (.int sel), .val (.int xx), .val (.int i1), .val (.int i2), .val (.int i3), .val (.ref b7), .val (.ref b19), .val (.int (sel &&& (7 : Int32))), .val (.int i42), .unset] []))) (fun _ kk => XS.icmpYes X19.here hx rfl (pc0 := 164) (pc' := 173) rfl (hb hby at_164) rfl (feq hc46).2 (by decide) (by decide) kk) ?_
                    refine go_of (B := (T19.setTop (mkF m 175 #[.val (.int p0), .val (.int p1), .val (.int p2), .val (.int sel), .val (.int xx), .val (.int i1), .val (.int i2), .val (.int i3), .val (.ref b7), .val (.ref b19), .val (.int (sel &&& (7 : Int32))), .val (.int i42), .unset] [(.int i42)]))) (fun _ kk => XS.iload X19.here hx rfl (hb hby at_173) rfl kk) ?_
                    refine go_of (B := (T19.setTop (mkF m 177 #[.val (.int p0), .val (.int p1), .val (.int p2), .val (.int sel), .val (.int xx), .val (.int i1), .val (.int i2), .val (.int i3), .val (.ref b7), .val (.ref b19), .val (.int (sel &&& (7 : Int32))), .val (.int i42), .unset] [(.int i3), (.int i42)]))) (fun _ kk => XS.iload X19.here hx rfl (hb hby at_175) rfl kk) ?_
                    by_cases hc48 : i42 = i3
                    · refine go_of (B := (T19.setTop (mkF m 180 #[.val (.int p0), .val (.int p1), .val (.int p2), .val (.int sel), .val (.int xx), .val (.int i1), .val (.int i2), .val (.int i3), .val (.ref b7), .val (.ref b19), .val (.int (sel &&& (7 : Int32))), .val (.int i42), .unset] []))) (fun _ kk => XS.icmpNo X19.here hx rfl (hb hby at_177) rfl (teq hc48).2 kk) ?_
                      refine go_of (B := (T19.setTop (mkF m 181 #[.val (.int p0), .val (.int p1), .val (.int p2), .val (.int sel), .val (.int xx), .val (.int i1), .val (.int i2), .val (.int i3), .val (.ref b7), .val (.ref b19), .val (.int (sel &&& (7 : Int32))), .val (.int i42), .unset] [(.int (2 : Int32))]))) (fun _ kk => XS.iconst X19.here hx rfl (hb hby at_180) kk) ?_
                      refine go_of (B := (T19.setTop (mkF m 183 #[.val (.int p0), .val (.int p1), .val (.int p2), .val (.int sel), .val (.int xx), .val (.int i1), .val (.int i2), .val (.int i3), .val (.ref b7), .val (.ref b19), .val (.int (sel &&& (7 : Int32))), .val (.int i42), .val (.int (2 : Int32))] []))) (fun _ kk => XS.istore X19.here hx rfl (hb hby at_181) rfl rfl kk) ?_
                      refine go_of (B := (T19.setTop (mkF m 189 #[.val (.int p0), .val (.int p1), .val (.int p2), .val (.int sel), .val (.int xx), .val (.int i1), .val (.int i2), .val (.int i3), .val (.ref b7), .val (.ref b19), .val (.int (sel &&& (7 : Int32))), .val (.int i42), .val (.int (2 : Int32))] []))) (fun _ kk => XS.goto X19.here hx rfl (pc0 := 183) (pc' := 189) rfl (hb hby at_183) (by decide) (by decide) kk) ?_
                      refine go_of (B := (T19.setTop (mkF m 191 #[.val (.int p0), .val (.int p1), .val (.int p2), .val (.int sel), .val (.int xx), .val (.int i1), .val (.int i2), .val (.int i3), .val (.ref b7), .val (.ref b19), .val (.int (sel &&& (7 : Int32))), .val (.int i42), .val (.int (2 : Int32))] [(.ref b19)]))) (fun _ kk => XS.aload X19.here hx rfl (hb hby at_189) rfl rfl kk) ?_
                      refine go_of (B := (T19.setTop (mkF m 193 #[.val (.int p0), .val (.int p1), .val (.int p2), .val (.int sel), .val (.int xx), .val (.int i1), .val (.int i2), .val (.int i3), .val (.ref b7), .val (.ref b19), .val (.int (sel &&& (7 : Int32))), .val (.int i42), .val (.int (2 : Int32))] [(.int i42), (.ref b19)]))) (fun _ kk => XS.iload X19.here hx rfl (hb hby at_191) rfl kk) ?_
                      obtain ⟨_, _, ⟨T49, L49, k49, n49⟩, -, X49, ⟨Lc49, hQ49, l49, y49, z49⟩, st49⟩ := Jvm.LawKit.callS X19 hx (y := (⟨"com/example/libpubid/libpubid/id/Digits", "value", "([BC)I"⟩ : MethodName)) hown (mvT hZ (hw _ (List.mem_of_getElem? (i := 70) rfl))) (mvT hZ (hw _ (List.mem_of_getElem? (i := 71) rfl))) (mvT hZ (hw _ (List.mem_of_getElem? (i := 32) rfl))) (mvT hZ (hw _ (List.mem_of_getElem? (i := 72) rfl))) (by decide) (backOf (W := 0) (rm16 l Z a0 hw [] b19 i42 (own_tab i1 i2 i3) T19.heap n0 (by first | omega | exact own_ne (by omega) | exact own_le (by omega)) F19 rc43) hZ (hw _ (List.mem_of_getElem? (i := 72) rfl)) (hw _ (List.mem_of_getElem? (i := 32) rfl)) (by decide) (by decide)) (g := (mkF m 193 #[.val (.int p0), .val (.int p1), .val (.int p2), .val (.int sel), .val (.int xx), .val (.int i1), .val (.int i2), .val (.int i3), .val (.ref b7), .val (.ref b19), .val (.int (sel &&& (7 : Int32))), .val (.int i42), .val (.int (2 : Int32))] [(.int i42), (.ref b19)])) rfl (by rw [hml]; rfl) (argsL := [(.ref b19), (.int i42)]) (rest := []) (lenOf pd___BC_I rfl) rfl (by show 2 * 0 + _ ≤ _; exact Nat.le_of_eq rfl) (hb hby at_193) (fun _ _ => ⟨rfl, rfl, (by decide : 4 + 0 ≤ _), (by decide : 138 + 0 ≤ _)⟩)
                      dsimp only [Pt.U, Pt.locs, Pt.cells, Pt.slots] at X49 l49 y49 z49 st49 hQ49
                      subst l49 y49 z49
                      obtain ⟨rfl, N49q, e49⟩ := hQ49
                      have N49 := Fr.app N19 N49q
                      refine go_of (B := (T49.setTop (mkF m 196 #[.val (.int p0), .val (.int p1), .val (.int p2), .val (.int sel), .val (.int xx), .val (.int i1), .val (.int i2), .val (.int i3), .val (.ref b7), .val (.ref b19), .val (.int (sel &&& (7 : Int32))), .val (.int i42), .val (.int (2 : Int32))] [(.int (own_val (own_tab i1 i2 i3) i42))]))) (st49) ?_
                      refine go_of (B := (T49.setTop (mkF m 198 #[.val (.int p0), .val (.int p1), .val (.int p2), .val (.int sel), .val (.int xx), .val (.int i1), .val (.int i2), .val (.int i3), .val (.ref b7), .val (.ref b19), .val (.int (sel &&& (7 : Int32))), .val (.int i42), .val (.int (2 : Int32))] [(.int (2 : Int32)), (.int (own_val (own_tab i1 i2 i3) i42))]))) (fun _ kk => XS.iload X49.here hx rfl (hb hby at_196) rfl kk) ?_
                      refine go_of (B := (T49.setTop (mkF m 201 #[.val (.int p0), .val (.int p1), .val (.int p2), .val (.int sel), .val (.int xx), .val (.int i1), .val (.int i2), .val (.int i3), .val (.ref b7), .val (.ref b19), .val (.int (sel &&& (7 : Int32))), .val (.int i42), .val (.int (2 : Int32))] []))) (fun _ kk => XS.icmpNo X49.here hx rfl (hb hby at_198) rfl (teq (by rw [own_valtab _ _ _ _ ri1 ri2 ri3 rc43]; first | (simp_all; done) | (simp [hc4, hc5, hc6, hc44, hc46, hc48]; done) | grind : (own_val (own_tab i1 i2 i3) i42) = (2 : Int32))).2 kk) ?_
                      refine go_of (B := (T49.setTop (mkF m 202 #[.val (.int p0), .val (.int p1), .val (.int p2), .val (.int sel), .val (.int xx), .val (.int i1), .val (.int i2), .val (.int i3), .val (.ref b7), .val (.ref b19), .val (.int (sel &&& (7 : Int32))), .val (.int i42), .val (.int (2 : Int32))] [(.int (1 : Int32))]))) (fun _ kk => XS.iconst X49.here hx rfl (hb hby at_201) kk) ?_
                      refine go_of (B := (T49.setTop (mkF m 206 #[.val (.int p0), .val (.int p1), .val (.int p2), .val (.int sel), .val (.int xx), .val (.int i1), .val (.int i2), .val (.int i3), .val (.ref b7), .val (.ref b19), .val (.int (sel &&& (7 : Int32))), .val (.int i42), .val (.int (2 : Int32))] [(.int (1 : Int32))]))) (fun _ kk => XS.goto X49.here hx rfl (pc0 := 202) (pc' := 206) rfl (hb hby at_202) (by decide) (by decide) kk) ?_
                      refine go_end X49 (v := some (.int (nar .boolean (1 : Int32)))) (fun h => by rw [Bd.returns] at h; cases h) Bd.notSynchronized (by decide) (by decide) (Q := (Q_rm0 Z p0 p1 p2 sel xx gC gF h0 n0)) ?_ (fun fs hr => retN X49 hx (t := .boolean) Bd.returns (by simp) (hb hby at_206) hr)
                      show (fun (v : Option Value) (h : Heap) (L : List Loc) => v = some (.int 1) ∧ Fr n0 L) (some (.int (nar .boolean (1 : Int32)))) T49.heap _
                      rw [e49]
                      exact ⟨rfl, N49⟩
                    · refine go_of (B := (T19.setTop (mkF m 186 #[.val (.int p0), .val (.int p1), .val (.int p2), .val (.int sel), .val (.int xx), .val (.int i1), .val (.int i2), .val (.int i3), .val (.ref b7), .val (.ref b19), .val (.int (sel &&& (7 : Int32))), .val (.int i42), .unset] []))) (fun _ kk => XS.icmpYes X19.here hx rfl (pc0 := 177) (pc' := 186) rfl (hb hby at_177) rfl (feq hc48).2 (by decide) (by decide) kk) ?_
                      refine go_of (B := (T19.setTop (mkF m 187 #[.val (.int p0), .val (.int p1), .val (.int p2), .val (.int sel), .val (.int xx), .val (.int i1), .val (.int i2), .val (.int i3), .val (.ref b7), .val (.ref b19), .val (.int (sel &&& (7 : Int32))), .val (.int i42), .unset] [(.int (-1 : Int32))]))) (fun _ kk => XS.iconst X19.here hx rfl (hb hby at_186) kk) ?_
                      refine go_of (B := (T19.setTop (mkF m 189 #[.val (.int p0), .val (.int p1), .val (.int p2), .val (.int sel), .val (.int xx), .val (.int i1), .val (.int i2), .val (.int i3), .val (.ref b7), .val (.ref b19), .val (.int (sel &&& (7 : Int32))), .val (.int i42), .val (.int (-1 : Int32))] []))) (fun _ kk => XS.istore X19.here hx rfl (hb hby at_187) rfl rfl kk) ?_
                      refine go_of (B := (T19.setTop (mkF m 191 #[.val (.int p0), .val (.int p1), .val (.int p2), .val (.int sel), .val (.int xx), .val (.int i1), .val (.int i2), .val (.int i3), .val (.ref b7), .val (.ref b19), .val (.int (sel &&& (7 : Int32))), .val (.int i42), .val (.int (-1 : Int32))] [(.ref b19)]))) (fun _ kk => XS.aload X19.here hx rfl (hb hby at_189) rfl rfl kk) ?_
                      refine go_of (B := (T19.setTop (mkF m 193 #[.val (.int p0), .val (.int p1), .val (.int p2), .val (.int sel), .val (.int xx), .val (.int i1), .val (.int i2), .val (.int i3), .val (.ref b7), .val (.ref b19), .val (.int (sel &&& (7 : Int32))), .val (.int i42), .val (.int (-1 : Int32))] [(.int i42), (.ref b19)]))) (fun _ kk => XS.iload X19.here hx rfl (hb hby at_191) rfl kk) ?_
                      obtain ⟨_, _, ⟨T50, L50, k50, n50⟩, -, X50, ⟨Lc50, hQ50, l50, y50, z50⟩, st50⟩ := Jvm.LawKit.callS X19 hx (y := (⟨"com/example/libpubid/libpubid/id/Digits", "value", "([BC)I"⟩ : MethodName)) hown (mvT hZ (hw _ (List.mem_of_getElem? (i := 70) rfl))) (mvT hZ (hw _ (List.mem_of_getElem? (i := 71) rfl))) (mvT hZ (hw _ (List.mem_of_getElem? (i := 32) rfl))) (mvT hZ (hw _ (List.mem_of_getElem? (i := 72) rfl))) (by decide) (backOf (W := 0) (rm16 l Z a0 hw [] b19 i42 (own_tab i1 i2 i3) T19.heap n0 (by first | omega | exact own_ne (by omega) | exact own_le (by omega)) F19 rc43) hZ (hw _ (List.mem_of_getElem? (i := 72) rfl)) (hw _ (List.mem_of_getElem? (i := 32) rfl)) (by decide) (by decide)) (g := (mkF m 193 #[.val (.int p0), .val (.int p1), .val (.int p2), .val (.int sel), .val (.int xx), .val (.int i1), .val (.int i2), .val (.int i3), .val (.ref b7), .val (.ref b19), .val (.int (sel &&& (7 : Int32))), .val (.int i42), .val (.int (-1 : Int32))] [(.int i42), (.ref b19)])) rfl (by rw [hml]; rfl) (argsL := [(.ref b19), (.int i42)]) (rest := []) (lenOf pd___BC_I rfl) rfl (by show 2 * 0 + _ ≤ _; exact Nat.le_of_eq rfl) (hb hby at_193) (fun _ _ => ⟨rfl, rfl, (by decide : 4 + 0 ≤ _), (by decide : 138 + 0 ≤ _)⟩)
                      dsimp only [Pt.U, Pt.locs, Pt.cells, Pt.slots] at X50 l50 y50 z50 st50 hQ50
                      subst l50 y50 z50
                      obtain ⟨rfl, N50q, e50⟩ := hQ50
                      have N50 := Fr.app N19 N50q
                      refine go_of (B := (T50.setTop (mkF m 196 #[.val (.int p0), .val (.int p1), .val (.int p2), .val (.int sel), .val (.int xx), .val (.int i1), .val (.int i2), .val (.int i3), .val (.ref b7), .val (.ref b19), .val (.int (sel &&& (7 : Int32))), .val (.int i42), .val (.int (-1 : Int32))] [(.int (own_val (own_tab i1 i2 i3) i42))]))) (st50) ?_
                      refine go_of (B := (T50.setTop (mkF m 198 #[.val (.int p0), .val (.int p1), .val (.int p2), .val (.int sel), .val (.int xx), .val (.int i1), .val (.int i2), .val (.int i3), .val (.ref b7), .val (.ref b19), .val (.int (sel &&& (7 : Int32))), .val (.int i42), .val (.int (-1 : Int32))] [(.int (-1 : Int32)), (.int (own_val (own_tab i1 i2 i3) i42))]))) (fun _ kk => XS.iload X50.here hx rfl (hb hby at_196) rfl kk) ?_
                      refine go_of (B := (T50.setTop (mkF m 201 #[.val (.int p0), .val (.int p1), .val (.int p2), .val (.int sel), .val (.int xx), .val (.int i1), .val (.int i2), .val (.int i3), .val (.ref b7), .val (.ref b19), .val (.int (sel &&& (7 : Int32))), .val (.int i42), .val (.int (-1 : Int32))] []))) (fun _ kk => XS.icmpNo X50.here hx rfl (hb hby at_198) rfl (teq (by rw [own_valtab _ _ _ _ ri1 ri2 ri3 rc43]; first | (simp_all; done) | (simp [hc4, hc5, hc6, hc44, hc46, hc48]; done) | grind : (own_val (own_tab i1 i2 i3) i42) = (-1 : Int32))).2 kk) ?_
                      refine go_of (B := (T50.setTop (mkF m 202 #[.val (.int p0), .val (.int p1), .val (.int p2), .val (.int sel), .val (.int xx), .val (.int i1), .val (.int i2), .val (.int i3), .val (.ref b7), .val (.ref b19), .val (.int (sel &&& (7 : Int32))), .val (.int i42), .val (.int (-1 : Int32))] [(.int (1 : Int32))]))) (fun _ kk => XS.iconst X50.here hx rfl (hb hby at_201) kk) ?_
                      refine go_of (B := (T50.setTop (mkF m 206 #[.val (.int p0), .val (.int p1), .val (.int p2), .val (.int sel), .val (.int xx), .val (.int i1), .val (.int i2), .val (.int i3), .val (.ref b7), .val (.ref b19), .val (.int (sel &&& (7 : Int32))), .val (.int i42), .val (.int (-1 : Int32))] [(.int (1 : Int32))]))) (fun _ kk => XS.goto X50.here hx rfl (pc0 := 202) (pc' := 206) rfl (hb hby at_202) (by decide) (by decide) kk) ?_
                      refine go_end X50 (v := some (.int (nar .boolean (1 : Int32)))) (fun h => by rw [Bd.returns] at h; cases h) Bd.notSynchronized (by decide) (by decide) (Q := (Q_rm0 Z p0 p1 p2 sel xx gC gF h0 n0)) ?_ (fun fs hr => retN X50 hx (t := .boolean) Bd.returns (by simp) (hb hby at_206) hr)
                      show (fun (v : Option Value) (h : Heap) (L : List Loc) => v = some (.int 1) ∧ Fr n0 L) (some (.int (nar .boolean (1 : Int32)))) T50.heap _
                      rw [e50]
                      exact ⟨rfl, N50⟩
theorem own_ne0 {t : Term} {g : Int32} {args : Array Value} {s : State} (ev : t.eval args s none [] s = some (.int g)) (h : (Jvm.Cond.not (.eq t (.int 0))).value args s none s [] = some true) : ¬ g = (0 : Int32) := by
  have h1 := not_v h
  intro q; subst q
  simp [Cond.value, ev, Term.int_eval] at h1
set_option maxRecDepth 65536 in
set_option maxHeartbeats 40000000 in
theorem comes_1 {Post : Tables → Env → Array Value → State → Outcome → State → Prop} (hpost : ∀ tb e args s v u, (limb_1_1.after args s (.returned v) u = true ∧ limb_1_2.after args s (.returned v) u = true ∧ True) → FrameEnd s (.returned v) u (Jvm.fieldLocs frame_1_writes args s ++ Jvm.arrayLocs frame_1_arrays args s ++ Jvm.staticLocs frame_1_statics s) 16 384 → Post tb e args s (.returned v) u) :
    ArmFor flags0 classFile x code maxLocals ret World_1 tables_1 room_1 Calls_1 rest_1 Pre_1 Post := by
  intro l hfl _ _ p e ha hc hk s m args below hf hA hF happ hP
  obtain ⟨hcalls, hrest, hpre⟩ := hP
  obtain ⟨-, -, -, hnamed, -, -, -, hat⟩ := (Spec.applies_iff hf).mp happ
  obtain ⟨hg, hn⟩ := and_e (Cond.before_iff.mp (show (Jvm.Cond.and given_1 narrow_1).before args s = true from hpre))
  obtain ⟨g1, g2⟩ := and_e hg
  obtain ⟨g3, g4⟩ := and_e g2
  obtain ⟨g5, g6⟩ := and_e g4
  obtain ⟨g7, g8⟩ := and_e g6
  obtain ⟨g9, g10⟩ := and_e g8
  obtain ⟨w0, w1, w2, w3, w4, rfl⟩ : ∃ w0 w1 w2 w3 w4 : Value, args = #[w0, w1, w2, w3, w4] := by
    have hs : args.size = 5 := by simpa [Cond.value, given_1] using g1
    obtain ⟨L⟩ := args
    match L, hs with
    | [w0, w1, w2, w3, w4], _ => exact ⟨w0, w1, w2, w3, w4, rfl⟩
  have hw := fun d (hd : d ∈ tables_1) => atoms_spec (ws := Jvm.Cond.code x code maxLocals ret :: tables_1) hat d (List.mem_cons_of_mem _ hd)
  have hfit : Fit s := fun {y c} hc i hi => by
    obtain ⟨ha, rfl⟩ := Array.getElem?_eq_some_iff.mp hc
    have q := List.all_eq_true.mp ((Array.all_eq_true_iff_forall_mem.mp hF) _ (Array.getElem_mem ha)) i (List.mem_range.mpr hi)
    simpa [Array.getElem?_eq_getElem hi] using q
  obtain ⟨hsets, hown0⟩ := atoms_of _ (rest_1_c_eq ▸ (show rest_1_c.before _ s = true from hrest))
  have hr0 := Cond.before_iff.mp hown0
  obtain ⟨i0, ei0⟩ := is_v g3
  obtain rfl : w0 = (.int i0) := Option.some.inj ei0
  obtain ⟨i1, ei1⟩ := is_v g5
  obtain rfl : w1 = (.int i1) := Option.some.inj ei1
  obtain ⟨i2, ei2⟩ := is_v g7
  obtain rfl : w2 = (.int i2) := Option.some.inj ei2
  obtain ⟨i3, ei3⟩ := is_v g9
  obtain rfl : w3 = (.int i3) := Option.some.inj ei3
  obtain ⟨i4, ei4⟩ := is_v g10
  obtain rfl : w4 = (.int i4) := Option.some.inj ei4
  obtain ⟨gC, evC⟩ := is_v (Cond.before_iff.mp (hsets _ (List.mem_of_getElem? (i := 1) rfl)))
  have SC := Sta.start evC (Or.inl (hsets _ (List.mem_of_getElem? (i := 0) rfl)))
  have hgC : ¬ gC = (0 : Int32) := own_ne0 evC (Cond.before_iff.mp (hsets _ (List.mem_of_getElem? (i := 2) rfl)))
  obtain ⟨gF, evF, rgF⟩ := isR_v (Cond.before_iff.mp (hsets _ (List.mem_of_getElem? (i := 8) rfl)))
  have SF := Sta.start evF (Or.inl (hsets _ (List.mem_of_getElem? (i := 7) rfl)))
  obtain ⟨n, o, h1, h2, h3, _, L, rfl, ⟨rfl, N⟩, hq⟩ := rm0 l s _ hw tables_1 i0 i1 i2 i3 i4 gC gF s.heap s.heap.size (Nat.le_refl _) (Old.start s) SC hgC SF rgF p e ha hc hk s m _ below hf ((Spec.applies_iff_loose hf).mp happ).1 ⟨rfl, State.Warmed39.refl s, rfl⟩ trivial
  exact ⟨n, _, h1, h2, h3, hpost _ _ _ _ _ _ ⟨Cond.after_iff.mpr rfl, Cond.after_iff.mpr (eq_i res_at (Term.int_eval (1)) rfl), trivial⟩ ⟨hq.1, hq.2.1, (hq.2.2.sift fun y hy => Or.inr (N y hy)).mono (by decide) (by decide)⟩⟩
theorem main_1_1 : Claimed_1_1 := comes_1 fun _ _ _ _ _ _ h hF => ⟨h.1, hF⟩
theorem main_1_2 : Claimed_1_2 := comes_1 fun _ _ _ _ _ _ h hF => ⟨h.2.1, hF⟩
end Jvm.Pilot.@@N@@
namespace Jvm.Pilot.@@N@@
open Jvm Jvm.ClassFile Sem Op Lib Jvm.Free Jvm.Stand Jvm.Pilot.@@N@@.Jvm.D
/-! MADE BY PROGRAM (witnessworld.py) out of the Statement's table words and the real class files: 21 classes; the members and pool entries that the words name. The judged class is class 1, her method 1. -/
namespace start1
open Jvm.ClassFile
def u (s : String) : CpInfo := .utf8 (stringToUtf16 s)
/-- a pool by its gaps: so many unusable entries, then the entry; so many at the end -/
def gap : Nat → List CpInfo → List CpInfo
  | 0, r => r
  | n + 1, r => .unusable :: gap n r
def poolList (es : List (Nat × CpInfo)) (last : Nat) : List CpInfo := es.foldr (fun e r => gap e.1 (e.2 :: r)) (gap last [])
def pool (es : List (Nat × CpInfo)) (last : Nat) : Array CpInfo := ⟨poolList es last⟩
def fileOf (pool : Array CpInfo) (this : Nat) (attrs : Array Attribute := #[]) (ms : Array MethodInfo := #[]) (fl : Nat := 33) (sup : Nat := 0) (ifs : Array Nat := #[]) (fds : Array FieldInfo := #[]) : ClassFile where
  minorVersion := 0
  majorVersion := 65
  constantPool := pool
  accessFlags := fl
  thisClass := this
  superClass := sup
  interfaces := ifs
  fields := fds
  methods := ms
  attributes := attrs
def plain (name : String) (sup : Option ClassId) : Class where
  name := name
  kind := .ordinary
  loader := none
  accessFlags := 33
  super := sup
  interfaces := #[]
  cf := none
  fields := #[]
  methods := #[]
  instanceTypes := #[]
  staticTypes := #[]
  resolved := #[]
  callSites := []
  init := .initialized
  statics := none
  mirror := none

def pool0 : Array CpInfo := pool [(5, u "<init>"), (0, u "()V"), (1, .class_ 10), (1, u "java/lang/Object")] 113

def k0c0 : Code := { maxStack := 0, maxLocals := 1, code := object_method_1_code, exceptionTable := #[], attributes := #[] }
def k0m0 : Method := { name := "<init>", desc := "()V", sig := { parameters := [], returnType := none }, accessFlags := 1, code := some k0c0 }
/-- java/lang/Object -/
def k0 : Class := { plain "java/lang/Object" none with
  accessFlags := 33
  interfaces := #[]
  cf := some (fileOf pool0 8 #[] #[{ accessFlags := 1, nameIndex := 5, descriptorIndex := 6, attributes := #[] }] 33 0 #[] #[])
  fields := #[]
  methods := #[k0m0]
  instanceTypes := #[]
  staticTypes := #[]
  resolved := Array.replicate 124 none
  statics := none }

def pool1 : Array CpInfo := pool [(2, .class_ 4), (1, u "java/lang/Object"), (0, u "<init>"), (0, u "()V"), (0, .class_ 8), (0, u "java/lang/String"), (0, .methodref 7 10), (0, .nameAndType 5 11), (0, u "([C)V"), (0, .methodref 13 14), (0, .class_ 15), (0, .nameAndType 16 17), (0, u "com/example/libpubid/libpubid/id/Digits"), (0, u "values"), (0, u "(Ljava/lang/String;)[B"), (0, .methodref 13 19), (0, .nameAndType 20 21), (0, u "value"), (0, u "([BC)I"), (0, .class_ 23), (0, u "com/example/libpubid/libpubid/id/DigitsValuePinLaw"), (2, u "law"), (0, u "(IIIII)Z")] 7

def k1m0 : Method := { name := "<init>", desc := "()V", sig := { parameters := [], returnType := none }, accessFlags := 1, code := none }
def k1c1 : Code := { maxStack := 3, maxLocals := 13, code := code, exceptionTable := #[], attributes := #[] }
def k1m1 : Method := { name := "law", desc := "(IIIII)Z", sig := { parameters := [.int, .int, .int, .int, .int], returnType := some .boolean }, accessFlags := 9, code := some k1c1 }
/-- com/example/libpubid/libpubid/id/DigitsValuePinLaw -/
def k1 : Class := { plain "com/example/libpubid/libpubid/id/DigitsValuePinLaw" (some 0) with
  accessFlags := 49
  interfaces := #[]
  cf := some (fileOf pool1 22 #[] #[{ accessFlags := 1, nameIndex := 5, descriptorIndex := 6, attributes := #[] }, { accessFlags := 9, nameIndex := 26, descriptorIndex := 27, attributes := #[] }] 49 2 #[] #[])
  fields := #[]
  methods := #[k1m0, k1m1]
  instanceTypes := #[]
  staticTypes := #[]
  resolved := Array.replicate 35 none
  statics := none }

def pool2 : Array CpInfo := pool [(1, .class_ 2), (0, u "java/io/Serializable"), (0, .class_ 4), (0, u "java/lang/Object")] 2

/-- java/io/Serializable -/
def k2 : Class := { plain "java/io/Serializable" (some 0) with
  accessFlags := 1537
  interfaces := #[]
  cf := some (fileOf pool2 1 #[] #[] 1537 3 #[] #[])
  fields := #[]
  methods := #[]
  instanceTypes := #[]
  staticTypes := #[]
  resolved := Array.replicate 7 none
  statics := none }

def pool3 : Array CpInfo := pool [(1, .class_ 2), (0, u "java/lang/Comparable"), (0, .class_ 4), (0, u "java/lang/Object")] 7

/-- java/lang/Comparable -/
def k3 : Class := { plain "java/lang/Comparable" (some 0) with
  accessFlags := 1537
  interfaces := #[]
  cf := some (fileOf pool3 1 #[] #[] 1537 3 #[] #[])
  fields := #[]
  methods := #[]
  instanceTypes := #[]
  staticTypes := #[]
  resolved := Array.replicate 12 none
  statics := none }

def pool4 : Array CpInfo := pool [(2, .class_ 4), (1, u "java/lang/CharSequence"), (42, .class_ 48), (0, u "java/lang/CharSequence$1CodePointIterator"), (10, .class_ 60), (0, u "java/lang/CharSequence$1CharIterator"), (5, .class_ 67), (0, u "java/lang/Object")] 63

/-- java/lang/CharSequence -/
def k4 : Class := { plain "java/lang/CharSequence" (some 0) with
  accessFlags := 1537
  interfaces := #[]
  cf := some (fileOf pool4 2 #[.nestMembers #[47, 59]] #[] 1537 66 #[] #[])
  fields := #[]
  methods := #[]
  instanceTypes := #[]
  staticTypes := #[]
  resolved := Array.replicate 131 none
  statics := none }

def pool5 : Array CpInfo := pool [(1, .class_ 2), (0, u "java/lang/constant/Constable"), (0, .class_ 4), (0, u "java/lang/Object")] 6

/-- java/lang/constant/Constable -/
def k5 : Class := { plain "java/lang/constant/Constable" (some 0) with
  accessFlags := 1537
  interfaces := #[]
  cf := some (fileOf pool5 1 #[] #[] 1537 3 #[] #[])
  fields := #[]
  methods := #[]
  instanceTypes := #[]
  staticTypes := #[]
  resolved := Array.replicate 11 none
  statics := none }

def pool6 : Array CpInfo := pool [(1, .class_ 2), (0, u "java/lang/constant/ConstantDesc"), (0, .class_ 4), (0, u "java/lang/Object")] 32

/-- java/lang/constant/ConstantDesc -/
def k6 : Class := { plain "java/lang/constant/ConstantDesc" (some 0) with
  accessFlags := 1537
  interfaces := #[]
  cf := some (fileOf pool6 1 #[] #[] 1537 3 #[] #[])
  fields := #[]
  methods := #[]
  instanceTypes := #[]
  staticTypes := #[]
  resolved := Array.replicate 37 none
  statics := none }

def pool7 : Array CpInfo := pool [(1, .methodref 2 3), (0, .class_ 4), (0, .nameAndType 5 6), (0, u "java/lang/Object"), (0, u "<init>"), (0, u "()V"), (2, .fieldref 10 11), (0, .class_ 12), (0, .nameAndType 13 14), (0, u "java/lang/String"), (0, u "value"), (0, u "[B"), (0, .fieldref 10 16), (0, .nameAndType 17 18), (0, u "coder"), (0, u "B"), (2, u "hash"), (0, u "I"), (2, u "hashIsZero"), (0, u "Z"), (0, .methodref 10 28), (0, .nameAndType 5 29), (0, u "([CIILjava/lang/Void;)V"), (8, .fieldref 10 39), (0, .nameAndType 40 26), (0, u "COMPACT_STRINGS"), (1, .class_ 44), (1, u "java/lang/StringUTF16"), (0, u "compress"), (1, .methodref 42 48), (0, .nameAndType 49 50), (0, u "coderFromArrayLen"), (0, u "([BI)B"), (56, .class_ 109), (1, u "java/lang/StringLatin1"), (32, u "()Z"), (34, .methodref 42 178), (0, .nameAndType 45 179), (0, u "([CII)[B"), (154, u "()I"), (0, .methodref 10 336), (0, .nameAndType 17 337), (0, u "()B"), (25, u "([BI)C"), (27, u "(II)V"), (35, u "(I)C"), (64, .methodref 10 493), (0, .nameAndType 494 142), (0, u "isLatin1"), (0, .methodref 107 496), (0, .nameAndType 497 363), (0, u "charAt"), (3, u "checkIndex"), (5, u "length"), (67, .class_ 576), (0, u "java/lang/CharSequence"), (22, u "CASE_INSENSITIVE_ORDER"), (0, u "Ljava/util/Comparator;"), (409, u "([C)V"), (42, .fieldref 1054 1055), (0, .class_ 1056), (0, .nameAndType 1057 1058), (0, u "jdk/internal/util/Preconditions"), (0, u "SIOOBE_FORMATTER"), (0, u "Ljava/util/function/BiFunction;"), (0, .methodref 1054 1060), (0, .nameAndType 501 1061), (0, u "(IILjava/util/function/BiFunction;)I"), (39, u "serialPersistentFields"), (0, u "[Ljava/io/ObjectStreamField;"), (0, .class_ 1104), (0, u "java/lang/String$CaseInsensitiveComparator"), (1, .class_ 1107), (0, u "java/io/Serializable"), (0, .class_ 1109), (0, u "java/lang/Comparable"), (0, .class_ 1111), (0, u "java/lang/constant/Constable"), (0, .class_ 1113), (0, u "java/lang/constant/ConstantDesc"), (2, u "serialVersionUID"), (0, u "J"), (3, u "REPL"), (0, u "C"), (2, u "LATIN1"), (1, u "UTF16")] 323

def k7m0 : Method := { name := "<init>", desc := "()V", sig := { parameters := [], returnType := none }, accessFlags := 1, code := none }
def k7c1 : Code := { maxStack := 5, maxLocals := 2, code := jdk_42_method_3_code, exceptionTable := #[], attributes := #[] }
def k7m1 : Method := { name := "<init>", desc := "([C)V", sig := { parameters := [(.array .char)], returnType := none }, accessFlags := 1, code := some k7c1 }
def k7c2 : Code := { maxStack := 2, maxLocals := 1, code := jdk_42_method_54_code, exceptionTable := #[], attributes := #[] }
def k7m2 : Method := { name := "length", desc := "()I", sig := { parameters := [], returnType := some .int }, accessFlags := 1, code := some k7c2 }
def k7c3 : Code := { maxStack := 2, maxLocals := 2, code := jdk_42_method_56_code, exceptionTable := #[], attributes := #[] }
def k7m3 : Method := { name := "charAt", desc := "(I)C", sig := { parameters := [.int], returnType := some .char }, accessFlags := 1, code := some k7c3 }
def k7c4 : Code := { maxStack := 4, maxLocals := 6, code := jdk_42_method_149_code, exceptionTable := #[], attributes := #[] }
def k7m4 : Method := { name := "<init>", desc := "([CIILjava/lang/Void;)V", sig := { parameters := [(.array .char), .int, .int, (.object "java/lang/Void")], returnType := none }, accessFlags := 2, code := some k7c4 }
def k7c5 : Code := { maxStack := 1, maxLocals := 1, code := jdk_42_method_152_code, exceptionTable := #[], attributes := #[] }
def k7m5 : Method := { name := "coder", desc := "()B", sig := { parameters := [], returnType := some .byte }, accessFlags := 0, code := some k7c5 }
def k7c6 : Code := { maxStack := 1, maxLocals := 1, code := jdk_42_method_154_code, exceptionTable := #[], attributes := #[] }
def k7m6 : Method := { name := "isLatin1", desc := "()Z", sig := { parameters := [], returnType := some .boolean }, accessFlags := 0, code := some k7c6 }
def k7c7 : Code := { maxStack := 3, maxLocals := 2, code := jdk_42_method_155_code, exceptionTable := #[], attributes := #[] }
def k7m7 : Method := { name := "checkIndex", desc := "(II)V", sig := { parameters := [.int, .int], returnType := none }, accessFlags := 8, code := some k7c7 }
/-- java/lang/String -/
def k7 : Class := { plain "java/lang/String" (some 0) with
  accessFlags := 49
  interfaces := #[2, 3, 4, 5, 6]
  cf := some (fileOf pool7 10 #[.nestMembers #[1103]] #[{ accessFlags := 1, nameIndex := 5, descriptorIndex := 6, attributes := #[] }, { accessFlags := 1, nameIndex := 5, descriptorIndex := 1010, attributes := #[] }, { accessFlags := 1, nameIndex := 507, descriptorIndex := 334, attributes := #[] }, { accessFlags := 1, nameIndex := 497, descriptorIndex := 427, attributes := #[] }, { accessFlags := 2, nameIndex := 5, descriptorIndex := 29, attributes := #[] }, { accessFlags := 0, nameIndex := 17, descriptorIndex := 337, attributes := #[] }, { accessFlags := 0, nameIndex := 494, descriptorIndex := 142, attributes := #[] }, { accessFlags := 8, nameIndex := 501, descriptorIndex := 391, attributes := #[] }] 49 2 #[1106, 1108, 575, 1110, 1112] #[{ accessFlags := 18, nameIndex := 13, descriptorIndex := 14, attributes := #[] }, { accessFlags := 18, nameIndex := 17, descriptorIndex := 18, attributes := #[] }, { accessFlags := 2, nameIndex := 21, descriptorIndex := 22, attributes := #[] }, { accessFlags := 2, nameIndex := 25, descriptorIndex := 26, attributes := #[] }, { accessFlags := 26, nameIndex := 1116, descriptorIndex := 1117, attributes := #[] }, { accessFlags := 24, nameIndex := 40, descriptorIndex := 26, attributes := #[] }, { accessFlags := 26, nameIndex := 1101, descriptorIndex := 1102, attributes := #[] }, { accessFlags := 26, nameIndex := 1121, descriptorIndex := 1122, attributes := #[] }, { accessFlags := 25, nameIndex := 599, descriptorIndex := 600, attributes := #[] }, { accessFlags := 24, nameIndex := 1125, descriptorIndex := 18, attributes := #[] }, { accessFlags := 24, nameIndex := 1127, descriptorIndex := 18, attributes := #[] }])
  fields := #[{ name := "value", type := (.array .byte), accessFlags := 18, slot := 0, constantValue := 0 }, { name := "coder", type := .byte, accessFlags := 18, slot := 1, constantValue := 0 }, { name := "hash", type := .int, accessFlags := 2, slot := 2, constantValue := 0 }, { name := "hashIsZero", type := .boolean, accessFlags := 2, slot := 3, constantValue := 0 }, { name := "serialVersionUID", type := .long, accessFlags := 26, slot := 0, constantValue := 0 }, { name := "COMPACT_STRINGS", type := .boolean, accessFlags := 24, slot := 1, constantValue := 0 }, { name := "serialPersistentFields", type := (.array (.object "java/io/ObjectStreamField")), accessFlags := 26, slot := 2, constantValue := 0 }, { name := "REPL", type := .char, accessFlags := 26, slot := 3, constantValue := 0 }, { name := "CASE_INSENSITIVE_ORDER", type := (.object "java/util/Comparator"), accessFlags := 25, slot := 4, constantValue := 0 }, { name := "LATIN1", type := .byte, accessFlags := 24, slot := 5, constantValue := 0 }, { name := "UTF16", type := .byte, accessFlags := 24, slot := 6, constantValue := 0 }]
  methods := #[k7m0, k7m1, k7m2, k7m3, k7m4, k7m5, k7m6, k7m7]
  instanceTypes := #[(.array .byte), .byte, .int, .boolean]
  staticTypes := #[.long, .boolean, (.array (.object "java/io/ObjectStreamField")), .char, (.object "java/util/Comparator"), .byte, .byte]
  resolved := Array.replicate 1451 none
  statics := some 0 }

def pool8 : Array CpInfo := pool [(6, .class_ 8), (1, u "java/lang/Object"), (0, u "<init>"), (0, u "()V"), (1, .class_ 14), (1, u "java/lang/StringUTF16"), (31, u "$assertionsDisabled"), (0, u "Z"), (13, u "HI_BYTE_SHIFT"), (0, u "I"), (2, u "LO_BYTE_SHIFT"), (49, .methodref 12 116), (0, .nameAndType 117 118), (0, u "compress"), (0, u "([CI[BII)I"), (3, u "([CII)[B"), (138, u "coderFromArrayLen"), (0, u "([BI)B"), (106, .class_ 371), (1, u "java/lang/StringUTF16$LinesSpliterator"), (58, u "MAX_LENGTH"), (196, .class_ 628), (0, u "java/lang/StringUTF16$CodePointsSpliterator"), (0, .class_ 630), (0, u "java/lang/StringUTF16$CharsSpliterator")] 4

def k8m0 : Method := { name := "<init>", desc := "()V", sig := { parameters := [], returnType := none }, accessFlags := 0, code := none }
def k8c1 : Code := { maxStack := 2, maxLocals := 2, code := jdk_52_method_15_code, exceptionTable := #[], attributes := #[] }
def k8m1 : Method := { name := "coderFromArrayLen", desc := "([BI)B", sig := { parameters := [(.array .byte), .int], returnType := some .byte }, accessFlags := 8, code := some k8c1 }
def k8c2 : Code := { maxStack := 5, maxLocals := 6, code := jdk_52_method_16_code, exceptionTable := #[], attributes := #[] }
def k8m2 : Method := { name := "compress", desc := "([CII)[B", sig := { parameters := [(.array .char), .int, .int], returnType := some (.array .byte) }, accessFlags := 9, code := some k8c2 }
def k8c3 : Code := { maxStack := 3, maxLocals := 7, code := jdk_52_method_21_code, exceptionTable := #[], attributes := #[] }
def k8m3 : Method := { name := "compress", desc := "([CI[BII)I", sig := { parameters := [(.array .char), .int, (.array .byte), .int, .int], returnType := some .int }, accessFlags := 9, code := some k8c3 }
/-- java/lang/StringUTF16 -/
def k8 : Class := { plain "java/lang/StringUTF16" (some 0) with
  accessFlags := 48
  interfaces := #[]
  cf := some (fileOf pool8 12 #[.nestMembers #[627, 629, 369]] #[{ accessFlags := 0, nameIndex := 9, descriptorIndex := 10, attributes := #[] }, { accessFlags := 8, nameIndex := 261, descriptorIndex := 262, attributes := #[] }, { accessFlags := 9, nameIndex := 117, descriptorIndex := 122, attributes := #[] }, { accessFlags := 9, nameIndex := 117, descriptorIndex := 118, attributes := #[] }] 48 6 #[] #[{ accessFlags := 26, nameIndex := 61, descriptorIndex := 62, attributes := #[] }, { accessFlags := 26, nameIndex := 65, descriptorIndex := 62, attributes := #[] }, { accessFlags := 24, nameIndex := 430, descriptorIndex := 62, attributes := #[] }, { accessFlags := 4120, nameIndex := 46, descriptorIndex := 47, attributes := #[] }])
  fields := #[{ name := "HI_BYTE_SHIFT", type := .int, accessFlags := 26, slot := 0, constantValue := 0 }, { name := "LO_BYTE_SHIFT", type := .int, accessFlags := 26, slot := 1, constantValue := 0 }, { name := "MAX_LENGTH", type := .int, accessFlags := 24, slot := 2, constantValue := 0 }, { name := "$assertionsDisabled", type := .boolean, accessFlags := 4120, slot := 3, constantValue := 0 }]
  methods := #[k8m0, k8m1, k8m2, k8m3]
  instanceTypes := #[]
  staticTypes := #[.int, .int, .int, .boolean]
  resolved := Array.replicate 635 none
  statics := none }

def pool9 : Array CpInfo := pool [(2, .class_ 4), (1, u "java/lang/Object"), (0, u "<init>"), (0, u "()V"), (0, .methodref 8 9), (0, .class_ 10), (0, .nameAndType 11 12), (0, u "java/lang/String"), (0, u "length"), (0, u "()I"), (0, .methodref 8 14), (0, .nameAndType 15 16), (0, u "charAt"), (0, u "(I)C"), (1, .class_ 20), (1, u "com/example/libpubid/libpubid/id/Digits"), (0, u "PAIR_VIEW"), (0, u "Ljava/lang/invoke/VarHandle;"), (10, .methodref 34 35), (0, .class_ 36), (0, .nameAndType 37 38), (0, u "java/util/Arrays"), (0, u "fill"), (0, u "([BB)V"), (38, u "ASCII_CHARACTERS"), (0, u "I"), (10, u "values"), (0, u "(Ljava/lang/String;)[B"), (0, u "value"), (0, u "([BC)I")] 5

def k9m0 : Method := { name := "<init>", desc := "()V", sig := { parameters := [], returnType := none }, accessFlags := 2, code := none }
def k9c1 : Code := { maxStack := 3, maxLocals := 3, code := prog_15_method_4_code, exceptionTable := #[], attributes := #[] }
def k9m1 : Method := { name := "values", desc := "(Ljava/lang/String;)[B", sig := { parameters := [(.object "java/lang/String")], returnType := some (.array .byte) }, accessFlags := 8, code := some k9c1 }
def k9c2 : Code := { maxStack := 2, maxLocals := 2, code := prog_15_method_5_code, exceptionTable := #[], attributes := #[] }
def k9m2 : Method := { name := "value", desc := "([BC)I", sig := { parameters := [(.array .byte), .char], returnType := some .int }, accessFlags := 8, code := some k9c2 }
/-- com/example/libpubid/libpubid/id/Digits -/
def k9 : Class := { plain "com/example/libpubid/libpubid/id/Digits" (some 0) with
  accessFlags := 32
  interfaces := #[]
  cf := some (fileOf pool9 18 #[] #[{ accessFlags := 2, nameIndex := 5, descriptorIndex := 6, attributes := #[] }, { accessFlags := 8, nameIndex := 89, descriptorIndex := 90, attributes := #[] }, { accessFlags := 8, nameIndex := 91, descriptorIndex := 92, attributes := #[] }] 32 2 #[] #[{ accessFlags := 26, nameIndex := 77, descriptorIndex := 78, attributes := #[] }, { accessFlags := 26, nameIndex := 21, descriptorIndex := 22, attributes := #[] }])
  fields := #[{ name := "ASCII_CHARACTERS", type := .int, accessFlags := 26, slot := 0, constantValue := 0 }, { name := "PAIR_VIEW", type := (.object "java/lang/invoke/VarHandle"), accessFlags := 26, slot := 1, constantValue := 0 }]
  methods := #[k9m0, k9m1, k9m2]
  instanceTypes := #[]
  staticTypes := #[.int, (.object "java/lang/invoke/VarHandle")]
  resolved := Array.replicate 98 none
  statics := none }

def pool10 : Array CpInfo := pool [(2, .class_ 4), (1, u "java/lang/Object"), (0, u "<init>"), (0, u "()V"), (7, .class_ 16), (1, u "java/util/Arrays"), (57, .class_ 76), (1, u "java/util/Arrays$NaturalOrder"), (36, .class_ 115), (1, u "java/util/Arrays$LegacyMergeSort"), (1, u "Z"), (257, .class_ 376), (0, u "java/util/Arrays$ArrayList"), (68, u "$assertionsDisabled"), (269, u "MIN_ARRAY_SORT_GRAN"), (0, u "I"), (2, u "INSERTIONSORT_THRESHOLD"), (120, u "fill"), (9, u "([BB)V"), (124, .class_ 976), (0, u "java/util/Arrays$ArrayItr")] 52

def k10m0 : Method := { name := "<init>", desc := "()V", sig := { parameters := [], returnType := none }, accessFlags := 2, code := none }
def k10c1 : Code := { maxStack := 3, maxLocals := 4, code := jdk_65_method_109_code, exceptionTable := #[], attributes := #[] }
def k10m1 : Method := { name := "fill", desc := "([BB)V", sig := { parameters := [(.array .byte), .byte], returnType := none }, accessFlags := 9, code := some k10c1 }
/-- java/util/Arrays -/
def k10 : Class := { plain "java/util/Arrays" (some 0) with
  accessFlags := 49
  interfaces := #[]
  cf := some (fileOf pool10 14 #[.nestMembers #[975, 375, 113, 74]] #[{ accessFlags := 2, nameIndex := 5, descriptorIndex := 6, attributes := #[] }, { accessFlags := 9, nameIndex := 840, descriptorIndex := 850, attributes := #[] }] 49 2 #[] #[{ accessFlags := 26, nameIndex := 715, descriptorIndex := 716, attributes := #[] }, { accessFlags := 26, nameIndex := 719, descriptorIndex := 716, attributes := #[] }, { accessFlags := 4120, nameIndex := 445, descriptorIndex := 117, attributes := #[] }])
  fields := #[{ name := "MIN_ARRAY_SORT_GRAN", type := .int, accessFlags := 26, slot := 0, constantValue := 0 }, { name := "INSERTIONSORT_THRESHOLD", type := .int, accessFlags := 26, slot := 1, constantValue := 0 }, { name := "$assertionsDisabled", type := .boolean, accessFlags := 4120, slot := 2, constantValue := 0 }]
  methods := #[k10m0, k10m1]
  instanceTypes := #[]
  staticTypes := #[.int, .int, .boolean]
  resolved := Array.replicate 1029 none
  statics := none }

def pool11 : Array CpInfo := pool [(1, .class_ 2), (0, u "java/lang/String"), (1, .class_ 6), (1, u "java/lang/Object"), (0, u "<init>"), (0, u "()V"), (0, .methodref 1 10), (0, .nameAndType 11 12), (0, u "checkIndex"), (0, u "(II)V"), (1, .class_ 16), (1, u "java/lang/StringLatin1"), (36, u "([BI)C"), (67, u "$assertionsDisabled"), (0, u "Z"), (98, .class_ 223), (1, u "java/lang/StringLatin1$LinesSpliterator"), (28, u "charAt"), (137, .class_ 391), (0, u "java/lang/StringLatin1$CharsSpliterator")] 3

def k11m0 : Method := { name := "<init>", desc := "()V", sig := { parameters := [], returnType := none }, accessFlags := 0, code := none }
def k11c1 : Code := { maxStack := 2, maxLocals := 2, code := jdk_43_method_2_code, exceptionTable := #[], attributes := #[] }
def k11m1 : Method := { name := "charAt", desc := "([BI)C", sig := { parameters := [(.array .byte), .int], returnType := some .char }, accessFlags := 9, code := some k11c1 }
/-- java/lang/StringLatin1 -/
def k11 : Class := { plain "java/lang/StringLatin1" (some 0) with
  accessFlags := 48
  interfaces := #[]
  cf := some (fileOf pool11 14 #[.nestMembers #[390, 221]] #[{ accessFlags := 0, nameIndex := 7, descriptorIndex := 8, attributes := #[] }, { accessFlags := 9, nameIndex := 252, descriptorIndex := 53, attributes := #[] }] 48 4 #[] #[{ accessFlags := 4120, nameIndex := 121, descriptorIndex := 122, attributes := #[] }])
  fields := #[{ name := "$assertionsDisabled", type := .boolean, accessFlags := 4120, slot := 0, constantValue := 0 }]
  methods := #[k11m0, k11m1]
  instanceTypes := #[]
  staticTypes := #[.boolean]
  resolved := Array.replicate 395 none
  statics := none }

def pool12 : Array CpInfo := pool [(2, .class_ 4), (1, u "java/lang/Object"), (0, u "<init>"), (0, u "()V"), (17, .class_ 26), (1, u "jdk/internal/util/Preconditions"), (6, u "checkIndex"), (21, .class_ 56), (0, u "jdk/internal/util/Preconditions$4"), (57, .class_ 115), (0, u "jdk/internal/util/Preconditions$1"), (7, u "SIOOBE_FORMATTER"), (0, u "Ljava/util/function/BiFunction;"), (0, .class_ 126), (0, u "jdk/internal/util/Preconditions$2"), (3, u "AIOOBE_FORMATTER"), (0, .class_ 132), (0, u "jdk/internal/util/Preconditions$3"), (3, u "IOOBE_FORMATTER"), (41, u "(IILjava/util/function/BiFunction;)I")] 15

def k12m0 : Method := { name := "<init>", desc := "()V", sig := { parameters := [], returnType := none }, accessFlags := 1, code := none }
def k12c1 : Code := { maxStack := 3, maxLocals := 3, code := jdk_41_method_11_code, exceptionTable := #[], attributes := #[] }
def k12m1 : Method := { name := "checkIndex", desc := "(IILjava/util/function/BiFunction;)I", sig := { parameters := [.int, .int, (.object "java/util/function/BiFunction")], returnType := some .int }, accessFlags := 9, code := some k12c1 }
/-- jdk/internal/util/Preconditions -/
def k12 : Class := { plain "jdk/internal/util/Preconditions" (some 0) with
  accessFlags := 33
  interfaces := #[]
  cf := some (fileOf pool12 24 #[.nestMembers #[55, 131, 125, 114]] #[{ accessFlags := 1, nameIndex := 5, descriptorIndex := 6, attributes := #[] }, { accessFlags := 9, nameIndex := 33, descriptorIndex := 178, attributes := #[] }] 33 2 #[] #[{ accessFlags := 25, nameIndex := 123, descriptorIndex := 124, attributes := #[] }, { accessFlags := 25, nameIndex := 130, descriptorIndex := 124, attributes := #[] }, { accessFlags := 25, nameIndex := 136, descriptorIndex := 124, attributes := #[] }])
  fields := #[{ name := "SIOOBE_FORMATTER", type := (.object "java/util/function/BiFunction"), accessFlags := 25, slot := 0, constantValue := 0 }, { name := "AIOOBE_FORMATTER", type := (.object "java/util/function/BiFunction"), accessFlags := 25, slot := 1, constantValue := 0 }, { name := "IOOBE_FORMATTER", type := (.object "java/util/function/BiFunction"), accessFlags := 25, slot := 2, constantValue := 0 }]
  methods := #[k12m0, k12m1]
  instanceTypes := #[]
  staticTypes := #[(.object "java/util/function/BiFunction"), (.object "java/util/function/BiFunction"), (.object "java/util/function/BiFunction")]
  resolved := Array.replicate 194 none
  statics := some 1 }

def pool13 : Array CpInfo := pool [(9, u "<init>"), (6, .class_ 18), (1, u "java/lang/Object"), (0, u "()V"), (1, .class_ 23), (1, u "jdk/internal/util/ArraysSupport"), (0, u "LOG2_ARRAY_LONG_INDEX_SCALE"), (0, u "I"), (2, u "U"), (0, u "Ljdk/internal/misc/Unsafe;"), (8, u "BIG_ENDIAN"), (0, u "Z"), (8, u "LOG2_BYTE_BIT_SIZE"), (4, u "LOG2_ARRAY_INT_INDEX_SCALE"), (54, u "JLA"), (0, u "Ljdk/internal/access/JavaLangAccess;"), (11, u "LOG2_ARRAY_BOOLEAN_INDEX_SCALE"), (9, u "LOG2_ARRAY_BYTE_INDEX_SCALE"), (5, u "LOG2_ARRAY_CHAR_INDEX_SCALE"), (5, u "LOG2_ARRAY_SHORT_INDEX_SCALE"), (18, u "LOG2_ARRAY_FLOAT_INDEX_SCALE"), (24, u "LOG2_ARRAY_DOUBLE_INDEX_SCALE"), (89, u "T_BOOLEAN"), (2, u "T_CHAR"), (1, u "T_FLOAT"), (1, u "T_DOUBLE"), (1, u "T_BYTE"), (1, u "T_SHORT"), (1, u "T_INT"), (1, u "T_LONG"), (1, u "SOFT_MAX_ARRAY_LENGTH")] 83

def k13m0 : Method := { name := "<init>", desc := "()V", sig := { parameters := [], returnType := none }, accessFlags := 2, code := none }
/-- jdk/internal/util/ArraysSupport -/
def k13 : Class := { plain "jdk/internal/util/ArraysSupport" (some 0) with
  accessFlags := 33
  interfaces := #[]
  cf := some (fileOf pool13 21 #[] #[{ accessFlags := 2, nameIndex := 9, descriptorIndex := 19, attributes := #[] }] 33 16 #[] #[{ accessFlags := 24, nameIndex := 28, descriptorIndex := 29, attributes := #[] }, { accessFlags := 26, nameIndex := 38, descriptorIndex := 39, attributes := #[] }, { accessFlags := 25, nameIndex := 121, descriptorIndex := 25, attributes := #[] }, { accessFlags := 25, nameIndex := 131, descriptorIndex := 25, attributes := #[] }, { accessFlags := 25, nameIndex := 137, descriptorIndex := 25, attributes := #[] }, { accessFlags := 25, nameIndex := 143, descriptorIndex := 25, attributes := #[] }, { accessFlags := 25, nameIndex := 53, descriptorIndex := 25, attributes := #[] }, { accessFlags := 25, nameIndex := 24, descriptorIndex := 25, attributes := #[] }, { accessFlags := 25, nameIndex := 162, descriptorIndex := 25, attributes := #[] }, { accessFlags := 25, nameIndex := 187, descriptorIndex := 25, attributes := #[] }, { accessFlags := 26, nameIndex := 48, descriptorIndex := 25, attributes := #[] }, { accessFlags := 25, nameIndex := 277, descriptorIndex := 25, attributes := #[] }, { accessFlags := 25, nameIndex := 280, descriptorIndex := 25, attributes := #[] }, { accessFlags := 25, nameIndex := 282, descriptorIndex := 25, attributes := #[] }, { accessFlags := 25, nameIndex := 284, descriptorIndex := 25, attributes := #[] }, { accessFlags := 25, nameIndex := 286, descriptorIndex := 25, attributes := #[] }, { accessFlags := 25, nameIndex := 288, descriptorIndex := 25, attributes := #[] }, { accessFlags := 25, nameIndex := 290, descriptorIndex := 25, attributes := #[] }, { accessFlags := 25, nameIndex := 292, descriptorIndex := 25, attributes := #[] }, { accessFlags := 26, nameIndex := 108, descriptorIndex := 109, attributes := #[] }, { accessFlags := 25, nameIndex := 294, descriptorIndex := 25, attributes := #[] }])
  fields := #[{ name := "U", type := (.object "jdk/internal/misc/Unsafe"), accessFlags := 24, slot := 0, constantValue := 0 }, { name := "BIG_ENDIAN", type := .boolean, accessFlags := 26, slot := 1, constantValue := 0 }, { name := "LOG2_ARRAY_BOOLEAN_INDEX_SCALE", type := .int, accessFlags := 25, slot := 2, constantValue := 0 }, { name := "LOG2_ARRAY_BYTE_INDEX_SCALE", type := .int, accessFlags := 25, slot := 3, constantValue := 0 }, { name := "LOG2_ARRAY_CHAR_INDEX_SCALE", type := .int, accessFlags := 25, slot := 4, constantValue := 0 }, { name := "LOG2_ARRAY_SHORT_INDEX_SCALE", type := .int, accessFlags := 25, slot := 5, constantValue := 0 }, { name := "LOG2_ARRAY_INT_INDEX_SCALE", type := .int, accessFlags := 25, slot := 6, constantValue := 0 }, { name := "LOG2_ARRAY_LONG_INDEX_SCALE", type := .int, accessFlags := 25, slot := 7, constantValue := 0 }, { name := "LOG2_ARRAY_FLOAT_INDEX_SCALE", type := .int, accessFlags := 25, slot := 8, constantValue := 0 }, { name := "LOG2_ARRAY_DOUBLE_INDEX_SCALE", type := .int, accessFlags := 25, slot := 9, constantValue := 0 }, { name := "LOG2_BYTE_BIT_SIZE", type := .int, accessFlags := 26, slot := 10, constantValue := 0 }, { name := "T_BOOLEAN", type := .int, accessFlags := 25, slot := 11, constantValue := 0 }, { name := "T_CHAR", type := .int, accessFlags := 25, slot := 12, constantValue := 0 }, { name := "T_FLOAT", type := .int, accessFlags := 25, slot := 13, constantValue := 0 }, { name := "T_DOUBLE", type := .int, accessFlags := 25, slot := 14, constantValue := 0 }, { name := "T_BYTE", type := .int, accessFlags := 25, slot := 15, constantValue := 0 }, { name := "T_SHORT", type := .int, accessFlags := 25, slot := 16, constantValue := 0 }, { name := "T_INT", type := .int, accessFlags := 25, slot := 17, constantValue := 0 }, { name := "T_LONG", type := .int, accessFlags := 25, slot := 18, constantValue := 0 }, { name := "JLA", type := (.object "jdk/internal/access/JavaLangAccess"), accessFlags := 26, slot := 19, constantValue := 0 }, { name := "SOFT_MAX_ARRAY_LENGTH", type := .int, accessFlags := 25, slot := 20, constantValue := 0 }]
  methods := #[k13m0]
  instanceTypes := #[]
  staticTypes := #[(.object "jdk/internal/misc/Unsafe"), .boolean, .int, .int, .int, .int, .int, .int, .int, .int, .int, .int, .int, .int, .int, .int, .int, .int, .int, (.object "jdk/internal/access/JavaLangAccess"), .int]
  resolved := Array.replicate 378 none
  statics := none }

def pool14 : Array CpInfo := pool [(1, u "java/lang/Cloneable"), (0, .class_ 1), (0, u "java/lang/Object"), (0, .class_ 3)] 3

/-- java/lang/Cloneable -/
def k14 : Class := { plain "java/lang/Cloneable" (some 0) with
  accessFlags := 1537
  interfaces := #[]
  cf := some (fileOf pool14 2 #[] #[] 1537 4 #[] #[])
  fields := #[]
  methods := #[]
  instanceTypes := #[]
  staticTypes := #[]
  resolved := Array.replicate 8 none
  statics := none }

/-- the primitive byte -/
def k15 : Class := { plain "byte" none with kind := .primitive 'B', accessFlags := 0x411 }
/-- [B -/
def k16 : Class := { plain "[B" (some 0) with kind := .array 15 .byte, interfaces := #[14, 2], accessFlags := 1041 }

/-- the primitive char -/
def k17 : Class := { plain "char" none with kind := .primitive 'C', accessFlags := 0x411 }
/-- [C -/
def k18 : Class := { plain "[C" (some 0) with kind := .array 17 .char, interfaces := #[14, 2], accessFlags := 1041 }

/-- the primitive int -/
def k19 : Class := { plain "int" none with kind := .primitive 'I', accessFlags := 0x411 }
/-- [I -/
def k20 : Class := { plain "[I" (some 0) with kind := .array 19 .int, interfaces := #[14, 2], accessFlags := 1041 }

def heap : Heap := #[{ cls := 7, slots := #[.long 0, .int 1, .null, .int 0, .null, .int 0, .int 0], vm := .statics 7 },
  { cls := 12, slots := #[.null, .null, .null], vm := .statics 12 }]
def classes : Array Class := #[k0, k1, k2, k3, k4, k5, k6, k7, k8, k9, k10, k11, k12, k13, k14, k15, k16, k17, k18, k19, k20]
def interned : List (Array UInt16 × Addr) := []
def slotsUsed : Nat := 10
def theMethod : MethodId := ⟨1, 1⟩
def args0 : Array Value := #[.int 5, .int 6, .int 7, .int 1, .int 9]
def aboutOver (below : List Frame) : State where
  vm := { classes := classes, interned := interned.toArray }
  heap := heap
  slotsUsed := slotsUsed
  threads := #[{ frames := .invoking theMethod args0 :: below }]
def below0 : List Frame := [.native { method := ⟨0, 0⟩, args := #[] }]
def about1 : State := aboutOver below0
def p0 : Program := .bare "" "" ""
def e0 : Env := launch0.env 0 0 0
theorem w_frames : about1.frames = Frame.invoking theMethod args0 :: below0 := rfl
set_option maxRecDepth 65536 in
theorem w_args : argsFit about1.vm theMethod args0 = true := by decide +kernel
set_option maxRecDepth 65536 in
theorem w_heap : heapFits about1 = true := by decide +kernel
set_option maxRecDepth 65536 in
theorem w_runnable : about1.curStatus? = some .runnable := by decide +kernel
set_option maxRecDepth 65536 in
theorem w_alone : about1.alone = true := by decide +kernel
set_option maxRecDepth 65536 in
theorem w_named : about1.methodNamed? x = some theMethod := by decide +kernel
set_option maxRecDepth 65536 in
theorem w_hears : about1.hears theMethod below0 = true := by decide +kernel
set_option maxRecDepth 65536 in
theorem w_ripe : about1.ripe theMethod args0 below0 = true := by decide +kernel
theorem w_running : about1.status = .running := rfl
set_option maxRecDepth 65536 in
theorem w_room : about1.hasRoom e0.platform room_1 = true :=
  launch0.hasRoom_least _ room_1 (by decide +kernel) (by decide +kernel) (by decide +kernel) (by decide +kernel) (by decide +kernel) (by decide +kernel)
theorem allAtoms_all (ts : List Jvm.Cond) (a : Array Jvm.Value) (st : Jvm.State) : (allAtoms ts).before a st = ts.all (fun c => c.before a st) := by
  induction ts with
  | nil => rfl
  | cons c t ih =>
    show (Jvm.Cond.and c (allAtoms t)).before a st = _
    rw [Jvm.Cond.before_and, ih, List.all_cons]
def words1 : List Jvm.Cond := Jvm.Cond.code x code maxLocals ret :: tables_1
/-- a 'code' word, met by the world's own term for the bytes: nothing is compared byte by byte -/
theorem code_word {y : MethodName} {bytes : ByteArray} {mx : Nat} {rt : Option FieldType} {a : Array Value} {s : State} {m : MethodId} {meth : Method} {c : Code} (h1 : s.methodNamed? y = some m) (h2 : s.vm.method? m = some meth) (h3 : meth.code = some c) (h4 : c.code = bytes)
    (h5 : (c.maxLocals == mx && c.exceptionTable.isEmpty && decide (c.maxStack ≤ mostOperands) && decide (meth.sig.returnType = rt) && !meth.locks && decide (parseMethodDescriptor y.desc = some meth.sig)) = true) : (Jvm.Cond.code y bytes mx rt).before a s = true := by
  simp only [Bool.and_eq_true, beq_iff_eq, Bool.not_eq_true', decide_eq_true_eq] at h5
  obtain ⟨⟨⟨⟨⟨g1, g2⟩, g3⟩, g4⟩, g5⟩, g6⟩ := h5
  simp [Cond.before, Cond.holds, Cond.value, h1, h2, h3, h4, g1, g2, g3, g4, g5, g6]
def isCode : Jvm.Cond → Bool
  | .code _ _ _ _ => true
  | _ => false
theorem all_split {L : List Jvm.Cond} {P : Jvm.Cond → Bool} (h1 : L.all (fun c => isCode c || P c) = true) (h2 : ∀ c ∈ L.filter isCode, P c = true) : L.all P = true := by
  refine List.all_eq_true.mpr fun c hc => ?_
  have h := List.all_eq_true.mp h1 c hc
  rcases Bool.eq_false_or_eq_true (isCode c) with hi | hi
  · exact h2 c (List.mem_filter.mpr ⟨hc, hi⟩)
  · simpa [hi] using h
set_option maxRecDepth 65536 in
theorem w_c0 : (Jvm.Cond.code x code maxLocals ret).before args0 about1 = true := code_word (m := ⟨1, 1⟩) (meth := k1m1) (c := k1c1) (by decide +kernel) rfl rfl rfl (by decide +kernel)
set_option maxRecDepth 65536 in
theorem w_c1 : (Jvm.Cond.code ({ cls := "java/lang/String", name := "<init>", desc := "([C)V" } : Jvm.MethodName) jdk_42_method_3_code (2 : Nat) (Option.none : Option Jvm.ClassFile.FieldType)).before args0 about1 = true := code_word (m := ⟨7, 1⟩) (meth := k7m1) (c := k7c1) (by decide +kernel) rfl rfl rfl (by decide +kernel)
set_option maxRecDepth 65536 in
theorem w_c2 : (Jvm.Cond.code ({ cls := "java/lang/String", name := "<init>", desc := "([CIILjava/lang/Void;)V" } : Jvm.MethodName) jdk_42_method_149_code (6 : Nat) (Option.none : Option Jvm.ClassFile.FieldType)).before args0 about1 = true := code_word (m := ⟨7, 4⟩) (meth := k7m4) (c := k7c4) (by decide +kernel) rfl rfl rfl (by decide +kernel)
set_option maxRecDepth 65536 in
theorem w_c3 : (Jvm.Cond.code ({ cls := "java/lang/Object", name := "<init>", desc := "()V" } : Jvm.MethodName) object_method_1_code (1 : Nat) (Option.none : Option Jvm.ClassFile.FieldType)).before args0 about1 = true := code_word (m := ⟨0, 0⟩) (meth := k0m0) (c := k0c0) (by decide +kernel) rfl rfl rfl (by decide +kernel)
set_option maxRecDepth 65536 in
theorem w_c4 : (Jvm.Cond.code ({ cls := "java/lang/StringUTF16", name := "compress", desc := "([CII)[B" } : Jvm.MethodName) jdk_52_method_16_code (6 : Nat) (Option.some (Jvm.ClassFile.FieldType.array Jvm.ClassFile.FieldType.byte))).before args0 about1 = true := code_word (m := ⟨8, 2⟩) (meth := k8m2) (c := k8c2) (by decide +kernel) rfl rfl rfl (by decide +kernel)
set_option maxRecDepth 65536 in
theorem w_c5 : (Jvm.Cond.code ({ cls := "java/lang/StringUTF16", name := "compress", desc := "([CI[BII)I" } : Jvm.MethodName) jdk_52_method_21_code (7 : Nat) (Option.some Jvm.ClassFile.FieldType.int)).before args0 about1 = true := code_word (m := ⟨8, 3⟩) (meth := k8m3) (c := k8c3) (by decide +kernel) rfl rfl rfl (by decide +kernel)
set_option maxRecDepth 65536 in
theorem w_c6 : (Jvm.Cond.code ({ cls := "java/lang/StringUTF16", name := "coderFromArrayLen", desc := "([BI)B" } : Jvm.MethodName) jdk_52_method_15_code (2 : Nat) (Option.some Jvm.ClassFile.FieldType.byte)).before args0 about1 = true := code_word (m := ⟨8, 1⟩) (meth := k8m1) (c := k8c1) (by decide +kernel) rfl rfl rfl (by decide +kernel)
set_option maxRecDepth 65536 in
theorem w_c7 : (Jvm.Cond.code ({ cls := "com/example/libpubid/libpubid/id/Digits", name := "values", desc := "(Ljava/lang/String;)[B" } : Jvm.MethodName) prog_15_method_4_code (3 : Nat) (Option.some (Jvm.ClassFile.FieldType.array Jvm.ClassFile.FieldType.byte))).before args0 about1 = true := code_word (m := ⟨9, 1⟩) (meth := k9m1) (c := k9c1) (by decide +kernel) rfl rfl rfl (by decide +kernel)
set_option maxRecDepth 65536 in
theorem w_c8 : (Jvm.Cond.code ({ cls := "java/util/Arrays", name := "fill", desc := "([BB)V" } : Jvm.MethodName) jdk_65_method_109_code (4 : Nat) (Option.none : Option Jvm.ClassFile.FieldType)).before args0 about1 = true := code_word (m := ⟨10, 1⟩) (meth := k10m1) (c := k10c1) (by decide +kernel) rfl rfl rfl (by decide +kernel)
set_option maxRecDepth 65536 in
theorem w_c9 : (Jvm.Cond.code ({ cls := "java/lang/String", name := "length", desc := "()I" } : Jvm.MethodName) jdk_42_method_54_code (1 : Nat) (Option.some Jvm.ClassFile.FieldType.int)).before args0 about1 = true := code_word (m := ⟨7, 2⟩) (meth := k7m2) (c := k7c2) (by decide +kernel) rfl rfl rfl (by decide +kernel)
set_option maxRecDepth 65536 in
theorem w_c10 : (Jvm.Cond.code ({ cls := "java/lang/String", name := "coder", desc := "()B" } : Jvm.MethodName) jdk_42_method_152_code (1 : Nat) (Option.some Jvm.ClassFile.FieldType.byte)).before args0 about1 = true := code_word (m := ⟨7, 5⟩) (meth := k7m5) (c := k7c5) (by decide +kernel) rfl rfl rfl (by decide +kernel)
set_option maxRecDepth 65536 in
theorem w_c11 : (Jvm.Cond.code ({ cls := "java/lang/String", name := "charAt", desc := "(I)C" } : Jvm.MethodName) jdk_42_method_56_code (2 : Nat) (Option.some Jvm.ClassFile.FieldType.char)).before args0 about1 = true := code_word (m := ⟨7, 3⟩) (meth := k7m3) (c := k7c3) (by decide +kernel) rfl rfl rfl (by decide +kernel)
set_option maxRecDepth 65536 in
theorem w_c12 : (Jvm.Cond.code ({ cls := "java/lang/String", name := "isLatin1", desc := "()Z" } : Jvm.MethodName) jdk_42_method_154_code (1 : Nat) (Option.some Jvm.ClassFile.FieldType.boolean)).before args0 about1 = true := code_word (m := ⟨7, 6⟩) (meth := k7m6) (c := k7c6) (by decide +kernel) rfl rfl rfl (by decide +kernel)
set_option maxRecDepth 65536 in
theorem w_c13 : (Jvm.Cond.code ({ cls := "java/lang/StringLatin1", name := "charAt", desc := "([BI)C" } : Jvm.MethodName) jdk_43_method_2_code (2 : Nat) (Option.some Jvm.ClassFile.FieldType.char)).before args0 about1 = true := code_word (m := ⟨11, 1⟩) (meth := k11m1) (c := k11c1) (by decide +kernel) rfl rfl rfl (by decide +kernel)
set_option maxRecDepth 65536 in
theorem w_c14 : (Jvm.Cond.code ({ cls := "java/lang/String", name := "checkIndex", desc := "(II)V" } : Jvm.MethodName) jdk_42_method_155_code (2 : Nat) (Option.none : Option Jvm.ClassFile.FieldType)).before args0 about1 = true := code_word (m := ⟨7, 7⟩) (meth := k7m7) (c := k7c7) (by decide +kernel) rfl rfl rfl (by decide +kernel)
set_option maxRecDepth 65536 in
theorem w_c15 : (Jvm.Cond.code ({ cls := "jdk/internal/util/Preconditions", name := "checkIndex", desc := "(IILjava/util/function/BiFunction;)I" } : Jvm.MethodName) jdk_41_method_11_code (3 : Nat) (Option.some Jvm.ClassFile.FieldType.int)).before args0 about1 = true := code_word (m := ⟨12, 1⟩) (meth := k12m1) (c := k12c1) (by decide +kernel) rfl rfl rfl (by decide +kernel)
set_option maxRecDepth 65536 in
theorem w_c16 : (Jvm.Cond.code ({ cls := "com/example/libpubid/libpubid/id/Digits", name := "value", desc := "([BC)I" } : Jvm.MethodName) prog_15_method_5_code (2 : Nat) (Option.some Jvm.ClassFile.FieldType.int)).before args0 about1 = true := code_word (m := ⟨9, 2⟩) (meth := k9m2) (c := k9c2) (by decide +kernel) rfl rfl rfl (by decide +kernel)
def codes1 : List Jvm.Cond := [Jvm.Cond.code x code maxLocals ret, Jvm.Cond.code ({ cls := "java/lang/String", name := "<init>", desc := "([C)V" } : Jvm.MethodName) jdk_42_method_3_code (2 : Nat) (Option.none : Option Jvm.ClassFile.FieldType), Jvm.Cond.code ({ cls := "java/lang/String", name := "<init>", desc := "([CIILjava/lang/Void;)V" } : Jvm.MethodName) jdk_42_method_149_code (6 : Nat) (Option.none : Option Jvm.ClassFile.FieldType), Jvm.Cond.code ({ cls := "java/lang/Object", name := "<init>", desc := "()V" } : Jvm.MethodName) object_method_1_code (1 : Nat) (Option.none : Option Jvm.ClassFile.FieldType), Jvm.Cond.code ({ cls := "java/lang/StringUTF16", name := "compress", desc := "([CII)[B" } : Jvm.MethodName) jdk_52_method_16_code (6 : Nat) (Option.some (Jvm.ClassFile.FieldType.array Jvm.ClassFile.FieldType.byte)), Jvm.Cond.code ({ cls := "java/lang/StringUTF16", name := "compress", desc := "([CI[BII)I" } : Jvm.MethodName) jdk_52_method_21_code (7 : Nat) (Option.some Jvm.ClassFile.FieldType.int), Jvm.Cond.code ({ cls := "java/lang/StringUTF16", name := "coderFromArrayLen", desc := "([BI)B" } : Jvm.MethodName) jdk_52_method_15_code (2 : Nat) (Option.some Jvm.ClassFile.FieldType.byte), Jvm.Cond.code ({ cls := "com/example/libpubid/libpubid/id/Digits", name := "values", desc := "(Ljava/lang/String;)[B" } : Jvm.MethodName) prog_15_method_4_code (3 : Nat) (Option.some (Jvm.ClassFile.FieldType.array Jvm.ClassFile.FieldType.byte)), Jvm.Cond.code ({ cls := "java/util/Arrays", name := "fill", desc := "([BB)V" } : Jvm.MethodName) jdk_65_method_109_code (4 : Nat) (Option.none : Option Jvm.ClassFile.FieldType), Jvm.Cond.code ({ cls := "java/lang/String", name := "length", desc := "()I" } : Jvm.MethodName) jdk_42_method_54_code (1 : Nat) (Option.some Jvm.ClassFile.FieldType.int), Jvm.Cond.code ({ cls := "java/lang/String", name := "coder", desc := "()B" } : Jvm.MethodName) jdk_42_method_152_code (1 : Nat) (Option.some Jvm.ClassFile.FieldType.byte), Jvm.Cond.code ({ cls := "java/lang/String", name := "charAt", desc := "(I)C" } : Jvm.MethodName) jdk_42_method_56_code (2 : Nat) (Option.some Jvm.ClassFile.FieldType.char), Jvm.Cond.code ({ cls := "java/lang/String", name := "isLatin1", desc := "()Z" } : Jvm.MethodName) jdk_42_method_154_code (1 : Nat) (Option.some Jvm.ClassFile.FieldType.boolean), Jvm.Cond.code ({ cls := "java/lang/StringLatin1", name := "charAt", desc := "([BI)C" } : Jvm.MethodName) jdk_43_method_2_code (2 : Nat) (Option.some Jvm.ClassFile.FieldType.char), Jvm.Cond.code ({ cls := "java/lang/String", name := "checkIndex", desc := "(II)V" } : Jvm.MethodName) jdk_42_method_155_code (2 : Nat) (Option.none : Option Jvm.ClassFile.FieldType), Jvm.Cond.code ({ cls := "jdk/internal/util/Preconditions", name := "checkIndex", desc := "(IILjava/util/function/BiFunction;)I" } : Jvm.MethodName) jdk_41_method_11_code (3 : Nat) (Option.some Jvm.ClassFile.FieldType.int), Jvm.Cond.code ({ cls := "com/example/libpubid/libpubid/id/Digits", name := "value", desc := "([BC)I" } : Jvm.MethodName) prog_15_method_5_code (2 : Nat) (Option.some Jvm.ClassFile.FieldType.int)]
set_option maxRecDepth 65536 in
theorem codes_eq : words1.filter isCode = codes1 := rfl
theorem w_codes : ∀ c ∈ words1.filter isCode, c.before args0 about1 = true := by
  rw [codes_eq]
  intro c hc
  simp only [codes1, List.mem_cons, List.not_mem_nil, or_false] at hc
  rcases hc with rfl | rfl | rfl | rfl | rfl | rfl | rfl | rfl | rfl | rfl | rfl | rfl | rfl | rfl | rfl | rfl | rfl
  · exact w_c0
  · exact w_c1
  · exact w_c2
  · exact w_c3
  · exact w_c4
  · exact w_c5
  · exact w_c6
  · exact w_c7
  · exact w_c8
  · exact w_c9
  · exact w_c10
  · exact w_c11
  · exact w_c12
  · exact w_c13
  · exact w_c14
  · exact w_c15
  · exact w_c16
set_option maxRecDepth 65536 in
theorem w_t1 : (words1.take 24).all (fun c => isCode c || c.before args0 about1) = true := by decide +kernel
set_option maxRecDepth 65536 in
theorem w_t2 : ((words1.drop 24).take 24).all (fun c => isCode c || c.before args0 about1) = true := by decide +kernel
set_option maxRecDepth 65536 in
theorem w_t3 : (((words1.drop 24).drop 24).take 24).all (fun c => isCode c || c.before args0 about1) = true := by decide +kernel
set_option maxRecDepth 65536 in
theorem w_t4 : (((words1.drop 24).drop 24).drop 24).all (fun c => isCode c || c.before args0 about1) = true := by decide +kernel
theorem w_tables : (allAtoms (Jvm.Cond.code x code maxLocals ret :: tables_1)).before args0 about1 = true := by
  rw [allAtoms_all]
  show words1.all (fun c => c.before args0 about1) = true
  refine all_split ?_ w_codes
  rw [← List.take_append_drop 24 words1, List.all_append, w_t1, ← List.take_append_drop 24 (words1.drop 24), List.all_append, w_t2, ← List.take_append_drop 24 ((words1.drop 24).drop 24), List.all_append, w_t3, w_t4]
  rfl
set_option maxRecDepth 65536 in
theorem w_rest : rest_1_c.before args0 about1 = true := by decide +kernel
set_option maxRecDepth 65536 in
theorem w_case : (Jvm.Cond.and given_1 narrow_1).before args0 about1 = true := by decide +kernel
theorem w_applies : (headSpec (Jvm.Cond.code x code maxLocals ret :: tables_1) room_1).applies x e0.platform about1 = true :=
  (Spec.applies_iff w_frames).mpr ⟨w_running, w_runnable, w_alone, w_named, w_hears, w_ripe, w_room, w_tables⟩
theorem atStart : AtStart classFile x code maxLocals ret World_1 tables_1 room_1 Calls_1 rest_1 Pre_1 launch0 p0 e0 about1 theMethod args0 below0 :=
  ⟨lists_1, trivial, launch0.admits_env _ _ _, launch0.least_env, fairChoices_fair.cas, fairChoices_fair.clock, w_frames, w_args, w_heap, w_applies, trivial, w_rest, w_case⟩
end start1
theorem witness_1 : WitnessClaimed_1 := ⟨start1.p0, start1.e0, start1.about1, start1.theMethod, start1.args0, start1.below0, start1.atStart⟩
end Jvm.Pilot.@@N@@
