import JvmDerived
import JvmDerived.Pilot.@@N@@Statement
import JvmDerived.Pilot.@@N@@Code
set_option linter.unusedVariables false
set_option linter.unusedSimpArgs false
namespace Jvm.Pilot.@@N@@
open Jvm Jvm.ClassFile Sem Op Lib Jvm.Free Jvm.Stand Jvm.LawKit Jvm.RoadKit Bundle Jvm.Pilot.@@N@@.Jvm.D
abbrev own_At (p : Program) (e : Env) (below : List Frame) (m : MethodId) (T : State) (pc : Nat) (ls : Array Slot) (st : List Value) (t : State) : Prop := Steps p.tables e below (T.setTop (mkF m pc ls st)) t
abbrev own_En (p : Program) (e : Env) (below : List Frame) (m : MethodId) (T : State) (a : Array Value) (n : Nat) (t : State) : Prop := Steps p.tables e below (T.setTop (entryFrame m a n)) t
theorem own_w {a0 : Array Value} {Z : State} (hw : ∀ d ∈ tables_1, d.before a0 Z = true) (i : Nat) {d : Jvm.Cond} (h : tables_1[i]? = some d) : d.before a0 Z = true := hw d (List.mem_of_getElem? h)
theorem own_eqI {t : Term} {k : Int32} {args : Array Value} {s : State} (h : (Jvm.Cond.eq t (.int k)).value args s none s [] = some true) : t.eval args s none [] s = some (.int k) := by
  have e : (Term.int k).eval args s none [] s = some (.int k) := rfl
  simp only [Cond.value, e] at h
  cases ht : t.eval args s none [] s with
  | none => simp [ht] at h
  | some x => cases x <;> simp [ht] at h ⊢; exact h
theorem own_neI {t : Term} {k z : Int32} {args : Array Value} {s : State} (e : t.eval args s none [] s = some (.int z)) (h : (Jvm.Cond.not (Jvm.Cond.eq t (.int k))).value args s none s [] = some true) : ¬ (z = k) := by
  have q := not_v h
  have e2 : (Term.int k).eval args s none [] s = some (.int k) := rfl
  simp only [Cond.value, e, e2, Bool.not_true, Option.some.injEq, decide_eq_false_iff_not] at q
  exact q
theorem own_neR {t u : Term} {a b : Addr} {args : Array Value} {s : State} (ea : t.eval args s none [] s = some (.ref a)) (eb : u.eval args s none [] s = some (.ref b)) (h : (Jvm.Cond.not (Jvm.Cond.eq t u)).value args s none s [] = some true) : ¬ (a = b) := by
  have q := not_v h
  rw [eq_R ea eb rfl rfl] at q
  intro e
  rw [e] at q
  simp at q
theorem own_eqJ {t : Term} {k : Int64} {args : Array Value} {s : State} (h : (Jvm.Cond.eq t (.long k)).value args s none s [] = some true) : t.eval args s none [] s = some (.long k) := by
  have e : (Term.long k).eval args s none [] s = some (.long k) := rfl
  simp only [Cond.value, e] at h
  cases ht : t.eval args s none [] s with
  | none => simp [ht] at h
  | some x => cases x <;> simp [ht] at h ⊢; exact h
theorem own_len {t : Term} {n : Int32} {a : Addr} {cl : Cell} {ty : FieldType} {args : Array Value} {s : State} (ev : t.eval args s none [] s = some (.ref a)) (A : Arr s s.heap a cl ty) (h : (Jvm.Cond.eq (.length t) (.int n)).value args s none s [] = some true) : cl.slots.size < 2 ^ 31 ∧ cl.slots.size.toInt32 = n := by
  have q := own_eqI h
  have hA := A.fin (Vm.Alike.refl _)
  simp only [Term.eval, ev, hA, Option.bind_eq_bind, Option.bind_some] at q
  split at q
  · rename_i hl
    exact ⟨hl, Value.int.inj (Option.some.inj q)⟩
  · cases q
theorem own_elem {t : Term} {j : Int32} {a : Addr} {v : Value} {cl : Cell} {ty : FieldType} {args : Array Value} {s : State} (ev : t.eval args s none [] s = some (.ref a)) (A : Arr s s.heap a cl ty) (h : (Term.elem t (.int j)).eval args s none [] s = some v) (i : Nat) (hi : j.toNatClampNeg = i) : cl.slots[i]? = some v := by
  have q := (elem_in h ev (rfl : (Term.int j).eval args s none [] s = some (.int j)) A.1).2
  rw [hi] at q; exact q
/-- an array as it stood at the start, that may be cloned -/
def own_Cln (Z : State) (h : Heap) (a : Addr) (ty : FieldType) (n : Int32) (vs : List Value) (d : Value) : Prop := ∃ c : Cell, Arr Z h a c ty ∧ FitC Z c ∧ c.slots.size = n.toNatClampNeg ∧ ¬ n < 0 ∧ Has c vs d ∧ ∀ i, i < c.slots.size → fits ty (vs.getD i d) = true
theorem own_Cln.ext {Z : State} {h h' : Heap} {a : Addr} {ty : FieldType} {n : Int32} {vs : List Value} {d : Value} (F : own_Cln Z h a ty n vs d) (E : Ext h h') : own_Cln Z h' a ty n vs d := by
  obtain ⟨c, A, r⟩ := F; exact ⟨c, A.ext E, r⟩
theorem own_Cln.start {Z : State} {a : Addr} {cl : Cell} {ty : FieldType} {z : Int32} {vs : List Value} {dv : Value} (hf : Fit Z) (A : Arr Z Z.heap a cl ty) (q : cl.slots.size < 2 ^ 31 ∧ cl.slots.size.toInt32 = z) (hz : ¬ z < 0) (hl : z.toNatClampNeg = vs.length) (H : HasL cl 0 vs) : own_Cln Z Z.heap a ty z vs dv := by
  have S : cl.slots.size = z.toNatClampNeg := by rw [← q.2]; simp only [Int32.toNatClampNeg, len_toInt q.1]; rfl
  have H' : Has cl vs dv := fun j hj => by have := HasL.at (dv := dv) vs 0 H j (by rw [← hl, ← S]; exact hj); rwa [Nat.zero_add] at this
  refine ⟨cl, A, FitC.start hf A, S, hz, H', fun j hj => ?_⟩
  have e1 : (Nat.toInt32 j).toNatClampNeg = j := by simp only [Int32.toNatClampNeg, len_toInt (Nat.lt_trans hj q.1)]; rfl
  exact elem_fits (j := Nat.toInt32 j) hf A (idx_in hj q.1) (by rw [e1]; exact H' j hj)
theorem own_Cln.arv {Z : State} {h : Heap} {a : Addr} {ty : FieldType} {n : Int32} {vs : List Value} {d : Value} (F : own_Cln Z h a ty n vs d) : ∃ k, Arv Z h a k ty n vs d := by
  obtain ⟨c, A, -, r⟩ := F; exact ⟨c.cls, c, A, rfl, r⟩
theorem own_eqR {t u : Term} {b : Addr} {args : Array Value} {s : State} (h : (Jvm.Cond.eq t u).value args s none s [] = some true) (e : u.eval args s none [] s = some (.ref b)) : t.eval args s none [] s = some (.ref b) := by
  simp only [Cond.value, e] at h
  cases ht : t.eval args s none [] s with
  | none => simp [ht] at h
  | some x => cases x <;> simp [ht] at h ⊢; exact h
theorem own_dup2L {tb : Tables} [Ours tb] {e : Env} {below : List Frame} {T target : State} {m : MethodId} {c : Code} {g : JFrame} (h : At T m c below) (hx : tb.exec = Jvm.exec) (hg : g.method = m) {x : Int64} {rest : List Value} (hd : decode c.code g.pc = .ok (.dup2, 1)) (hs : g.stack = .long x :: rest) (hr : Steps tb e below (T.setTop { g with pc := g.pc + 1, stack := .long x :: .long x :: rest }) target) : Steps tb e below (T.setTop g) target := by
  subst hg
  jvm_step h [h.top, hx, hd, hs, Value.category]
  exact hr
def EV (Z : State) (a_TRUE : Addr) (a_MILLISECONDS : Addr) (a_MILLISECONDS_name : Addr) (a_FALSE : Addr) : Prop := Sta Z Z.heap "java/lang/Boolean" "TRUE" "Ljava/lang/Boolean;" (.ref a_TRUE) ∧ Exa Z Z.heap a_TRUE "java/lang/Boolean" ∧ Fld Z Z.heap a_TRUE "java/lang/Boolean" "value" "Z" (.int (1 : Int32)) ∧ Sta Z Z.heap "java/util/concurrent/TimeUnit" "MILLISECONDS" "Ljava/util/concurrent/TimeUnit;" (.ref a_MILLISECONDS) ∧ Exa Z Z.heap a_MILLISECONDS "java/util/concurrent/TimeUnit" ∧ Fld Z Z.heap a_MILLISECONDS "java/lang/Enum" "name" "Ljava/lang/String;" (.ref a_MILLISECONDS_name) ∧ Exa Z Z.heap a_MILLISECONDS_name "java/lang/String" ∧ Fld Z Z.heap a_MILLISECONDS "java/lang/Enum" "ordinal" "I" (.int (2 : Int32)) ∧ Fld Z Z.heap a_MILLISECONDS "java/util/concurrent/TimeUnit" "scale" "J" (.long (1000000 : Int64)) ∧ Fld Z Z.heap a_MILLISECONDS "java/util/concurrent/TimeUnit" "maxNanos" "J" (.long (9223372036854 : Int64)) ∧ Fld Z Z.heap a_MILLISECONDS "java/util/concurrent/TimeUnit" "microRatio" "J" (.long (1000 : Int64)) ∧ Fld Z Z.heap a_MILLISECONDS "java/util/concurrent/TimeUnit" "maxMicros" "J" (.long (9223372036854775 : Int64)) ∧ Fld Z Z.heap a_MILLISECONDS "java/util/concurrent/TimeUnit" "milliRatio" "I" (.int (1 : Int32)) ∧ Fld Z Z.heap a_MILLISECONDS "java/util/concurrent/TimeUnit" "maxMillis" "J" (.long (9223372036854775807 : Int64)) ∧ Fld Z Z.heap a_MILLISECONDS "java/util/concurrent/TimeUnit" "secRatio" "I" (.int (1000 : Int32)) ∧ Fld Z Z.heap a_MILLISECONDS "java/util/concurrent/TimeUnit" "maxSecs" "J" (.long (9223372036854775 : Int64)) ∧ Sta Z Z.heap "java/lang/Boolean" "FALSE" "Ljava/lang/Boolean;" (.ref a_FALSE) ∧ Exa Z Z.heap a_FALSE "java/lang/Boolean" ∧ Fld Z Z.heap a_FALSE "java/lang/Boolean" "value" "Z" (.int (0 : Int32))
theorem ef_ctor (m : MethodId) (x0 : Addr) (x1 : Int64) (x2 : Int64) (x3 : Addr)  : entryFrame m #[(.ref x0), (.long x1), (.long x2), (.ref x3)] 6 = mkF m 0 #[.val (.ref x0), .val (.long x1), .second, .val (.long x2), .second, .val (.ref x3)] [] := by first | (simp [entryFrame, mkF, argsToLocals, Value.category]; done) | rfl
theorem d_prog_5_method_1_code_0 : decode prog_5_method_1_code 0 = .ok (.aload_n 0, 1) := by decide +kernel
theorem d_prog_5_method_1_code_1 : decode prog_5_method_1_code 1 = .ok (.invokespecial 1, 3) := by decide +kernel
theorem d_prog_5_method_1_code_4 : decode prog_5_method_1_code 4 = .ok (.aload_n 0, 1) := by decide +kernel
theorem d_prog_5_method_1_code_5 : decode prog_5_method_1_code 5 = .ok (.lload_n 1, 1) := by decide +kernel
theorem d_prog_5_method_1_code_6 : decode prog_5_method_1_code 6 = .ok (.putfield 7, 3) := by decide +kernel
theorem d_prog_5_method_1_code_9 : decode prog_5_method_1_code 9 = .ok (.aload_n 0, 1) := by decide +kernel
theorem d_prog_5_method_1_code_10 : decode prog_5_method_1_code 10 = .ok (.lload_n 3, 1) := by decide +kernel
theorem d_prog_5_method_1_code_11 : decode prog_5_method_1_code 11 = .ok (.putfield 13, 3) := by decide +kernel
theorem d_prog_5_method_1_code_14 : decode prog_5_method_1_code 14 = .ok (.aload_n 0, 1) := by decide +kernel
theorem d_prog_5_method_1_code_15 : decode prog_5_method_1_code 15 = .ok (.aload 5, 2) := by decide +kernel
theorem d_prog_5_method_1_code_17 : decode prog_5_method_1_code 17 = .ok (.putfield 16, 3) := by decide +kernel
theorem d_prog_5_method_1_code_20 : decode prog_5_method_1_code 20 = .ok (.return_, 1) := by decide +kernel
theorem pn_com_example_plus1_plus1_Take : plainName "com/example/plus1/plus1/Take" = true := by first | (simp [plainName, overriddenIn]; done) | decide +kernel
abbrev own_m0 : MethodName := ⟨"com/example/plus1/plus1/Take", "<init>", "(JJLjava/lang/Boolean;)V"⟩
def Q_ctor (Z : State) (a1 : Addr) (p2 : Int64) (p4 : Int64) (r6 : Addr) (a_TRUE : Addr) (a_MILLISECONDS : Addr) (a_MILLISECONDS_name : Addr) (a_FALSE : Addr) (h0 : Heap) (n0 : Nat) (v : Option Value) (h : Heap) (L : List Loc) : Prop := v = none ∧ Fr n0 L ∧ Old Z n0 h ∧ Keep h0 h [a1] ∧ Exa Z h a1 "com/example/plus1/plus1/Take" ∧ Fld Z h a1 "com/example/plus1/plus1/Take" "holds" "J" (.long p2) ∧ Fld Z h a1 "com/example/plus1/plus1/Take" "retryMillis" "J" (.long p4) ∧ Fld Z h a1 "com/example/plus1/plus1/Take" "heldBefore" "Ljava/lang/Boolean;" (.ref r6)
set_option maxRecDepth 65536 in
set_option maxHeartbeats 40000000 in
theorem rm_ctor (l : Launch) (Z : State) (a0 : Array Value) (hw : ∀ d ∈ tables_1, d.before a0 Z = true) (ws : List Jvm.Cond) (a1 : Addr) (p2 : Int64) (p4 : Int64) (r6 : Addr) (a_TRUE : Addr) (a_MILLISECONDS : Addr) (a_MILLISECONDS_name : Addr) (a_FALSE : Addr) (h0 : Heap) (n0 : Nat) (O0 : Old Z n0 h0) (hE : EV Z a_TRUE a_MILLISECONDS a_MILLISECONDS_name a_FALSE) (F_holds : Fld Z h0 a1 "com/example/plus1/plus1/Take" "holds" "J" (.long (0 : Int64))) (F_retryMillis : Fld Z h0 a1 "com/example/plus1/plus1/Take" "retryMillis" "J" (.long (0 : Int64))) (F_heldBefore : Fld Z h0 a1 "com/example/plus1/plus1/Take" "heldBefore" "Ljava/lang/Boolean;" .null) (E_a1 : Exa Z h0 a1 "com/example/plus1/plus1/Take") (g_a1 : n0 ≤ a1) :
    MetFree l own_m0 (head1 (Jvm.Cond.code own_m0 prog_5_method_1_code 6 none :: ws) ({ frames := 1, cells := 0, slots := 0, locals := 12 } : Room)) (fun a U => a = #[(.ref a1), (.long p2), (.long p4), (.ref r6)] ∧ Z.Warmed39 U.vm ∧ U.heap = h0) (fun _ _ _ _ _ => True) (fun _ U o U' => ∃ v L, o = .returned v ∧ Q_ctor Z a1 p2 p4 r6 a_TRUE a_MILLISECONDS a_MILLISECONDS_name a_FALSE h0 n0 v U'.heap L ∧ FrameEnd U o U' L ({ frames := 1, cells := 0, slots := 0, locals := 12 } : Room).cells ({ frames := 1, cells := 0, slots := 0, locals := 12 } : Room).slots) := by
  refine MetFree.of_bodySF (plainFor_of_name pn_com_example_plus1_plus1_Take) hisR ?_
  intro p e s m args below meth c s₁ Bd hml0 hP hK
  obtain ⟨rfl, hZ, hh⟩ := hP
  have hx := Bd.exec
  have hby := Bd.bytes
  have hml : c.maxLocals = 6 := hml0
  have hown : s.vm.findClass "com/example/plus1/plus1/Take" = some m.cls := findClass_of_methodNamed Bd.named
  have hnm := (name_of_methodNamed Bd.named Bd.method).1
  have X0 : Stand p l e ({ frames := 1, cells := 0, slots := 0, locals := 12 } : Room) s m #[(.ref a1), (.long p2), (.long p4), (.ref r6)] below meth c s₁ [] 0 0 := Stand.of_body Bd
  have e0 : s₁.heap = h0 := by rw [← hh, Bd.state]; rfl
  have N0 := Fr.nil n0
  refine Classical.byContradiction fun hNG => ?_
  have K0 := Keep.refl h0 [a1]
  have k0 : ∀ t, own_At p e below m s₁ 0 #[.val (.ref a1), .val (.long p2), .second, .val (.long p4), .second, .val (.ref r6)] [] t → own_En p e below m s₁ #[(.ref a1), (.long p2), (.long p4), (.ref r6)] 6 t := fun t k => castTop (ef_ctor m a1 p2 p4 r6 ) k
  obtain ⟨S_TRUE, E_TRUE, F_TRUE_value, S_MILLISECONDS, E_MILLISECONDS, F_MILLISECONDS_name, E_MILLISECONDS_name, F_MILLISECONDS_ordinal, F_MILLISECONDS_scale, F_MILLISECONDS_maxNanos, F_MILLISECONDS_microRatio, F_MILLISECONDS_maxMicros, F_MILLISECONDS_milliRatio, F_MILLISECONDS_maxMillis, F_MILLISECONDS_secRatio, F_MILLISECONDS_maxSecs, S_FALSE, E_FALSE, F_FALSE_value⟩ := (id hE : EV Z a_TRUE a_MILLISECONDS a_MILLISECONDS_name a_FALSE)
  obtain ⟨T1, X1, e1, st1⟩ := initO X0 hx hZ hown (own_w hw 14 rfl) (own_w hw 15 rfl) (own_w hw 16 rfl) e0 (g := (mkF m 1 #[.val (.ref a1), .val (.long p2), .second, .val (.long p4), .second, .val (.ref r6)] [(.ref a1)])) rfl (by rw [hml]; rfl) rfl (hb hby d_prog_5_method_1_code_1) (by decide) (W := 0) (by show 2 * 0 + _ ≤ _; exact Nat.le_of_eq rfl) (by decide)
  obtain ⟨T2, h2, X2, e2, W2, st2⟩ := putF X1 hx hZ hown (host := "") (Or.inl (own_w hw 17 rfl)) Via.refl e1 F_holds E_a1 (Or.inr ⟨(own_w hw 18 rfl), rfl, hnm⟩) (own_w hw 5 rfl) (ty := .long) (by decide) rfl rfl (g := (mkF m 6 #[.val (.ref a1), .val (.long p2), .second, .val (.long p4), .second, .val (.ref r6)] [(.long p2), (.ref a1)])) rfl rfl (hb hby d_prog_5_method_1_code_6)
  have F2_holds := F_holds.same W2
  have N2 := Fr.snoc X2 N0 g_a1
  have O2 := O0.wr W2 g_a1
  have K2 := K0.wr W2 (Or.inl (List.mem_of_getElem? (i := 0) rfl))
  have f3 := (E_a1.wr W2)
  have f4 := (F_retryMillis.other W2 (Or.inr (slot_ne (Or.inr (own_w hw 20 rfl)) (Or.inr (own_w hw 18 rfl)) (by decide) (t := .long) (t' := .long) (by decide) (by decide))))
  obtain ⟨T5, h5, X5, e5, W5, st5⟩ := putF X2 hx hZ hown (host := "") (Or.inl (own_w hw 19 rfl)) Via.refl e2 f4 f3 (Or.inr ⟨(own_w hw 20 rfl), rfl, hnm⟩) (own_w hw 5 rfl) (ty := .long) (by decide) rfl rfl (g := (mkF m 11 #[.val (.ref a1), .val (.long p2), .second, .val (.long p4), .second, .val (.ref r6)] [(.long p4), (.ref a1)])) rfl rfl (hb hby d_prog_5_method_1_code_11)
  have F5_retryMillis := f4.same W5
  have N5 := Fr.snoc X5 N2 g_a1
  have O5 := O2.wr W5 g_a1
  have K5 := K2.wr W5 (Or.inl (List.mem_of_getElem? (i := 0) rfl))
  have f6 := (f3.wr W5)
  have f7 := ((F_heldBefore.other W2 (Or.inr (slot_ne (Or.inr (own_w hw 22 rfl)) (Or.inr (own_w hw 18 rfl)) (by decide) (t := (.object "java/lang/Boolean")) (t' := .long) (by decide) (by decide)))).other W5 (Or.inr (slot_ne (Or.inr (own_w hw 22 rfl)) (Or.inr (own_w hw 20 rfl)) (by decide) (t := (.object "java/lang/Boolean")) (t' := .long) (by decide) (by decide))))
  obtain ⟨T8, h8, X8, e8, W8, st8⟩ := putF X5 hx hZ hown (host := "") (Or.inl (own_w hw 21 rfl)) Via.refl e5 f7 f6 (Or.inr ⟨(own_w hw 22 rfl), rfl, hnm⟩) (own_w hw 5 rfl) (ty := (.object "java/lang/Boolean")) (by decide) rfl rfl (g := (mkF m 17 #[.val (.ref a1), .val (.long p2), .second, .val (.long p4), .second, .val (.ref r6)] [(.ref r6), (.ref a1)])) rfl rfl (hb hby d_prog_5_method_1_code_17)
  have F8_heldBefore := f7.same W8
  have N8 := Fr.snoc X8 N5 g_a1
  have O8 := O5.wr W8 g_a1
  have K8 := K5.wr W8 (Or.inl (List.mem_of_getElem? (i := 0) rfl))
  have k9 : ∀ t, own_At p e below m T8 20 #[.val (.ref a1), .val (.long p2), .second, .val (.long p4), .second, .val (.ref r6)] [] t → own_En p e below m s₁ #[(.ref a1), (.long p2), (.long p4), (.ref r6)] 6 t := by
    intro t k
    refine k0 t ?_
    refine XS.aloadN X0.here hx rfl (hb hby d_prog_5_method_1_code_0) rfl rfl ?_
    show own_At p e below m s₁ 1 #[.val (.ref a1), .val (.long p2), .second, .val (.long p4), .second, .val (.ref r6)] [(.ref a1)] t
    refine st1 _ ?_
    show own_At p e below m T1 4 #[.val (.ref a1), .val (.long p2), .second, .val (.long p4), .second, .val (.ref r6)] [] t
    refine XS.aloadN X1.here hx rfl (hb hby d_prog_5_method_1_code_4) rfl rfl ?_
    show own_At p e below m T1 5 #[.val (.ref a1), .val (.long p2), .second, .val (.long p4), .second, .val (.ref r6)] [(.ref a1)] t
    refine XS.lloadN X1.here hx rfl (hb hby d_prog_5_method_1_code_5) rfl ?_
    show own_At p e below m T1 6 #[.val (.ref a1), .val (.long p2), .second, .val (.long p4), .second, .val (.ref r6)] [(.long p2), (.ref a1)] t
    refine st2 _ ?_
    show own_At p e below m T2 9 #[.val (.ref a1), .val (.long p2), .second, .val (.long p4), .second, .val (.ref r6)] [] t
    refine XS.aloadN X2.here hx rfl (hb hby d_prog_5_method_1_code_9) rfl rfl ?_
    show own_At p e below m T2 10 #[.val (.ref a1), .val (.long p2), .second, .val (.long p4), .second, .val (.ref r6)] [(.ref a1)] t
    refine XS.lloadN X2.here hx rfl (hb hby d_prog_5_method_1_code_10) rfl ?_
    show own_At p e below m T2 11 #[.val (.ref a1), .val (.long p2), .second, .val (.long p4), .second, .val (.ref r6)] [(.long p4), (.ref a1)] t
    refine st5 _ ?_
    show own_At p e below m T5 14 #[.val (.ref a1), .val (.long p2), .second, .val (.long p4), .second, .val (.ref r6)] [] t
    refine XS.aloadN X5.here hx rfl (hb hby d_prog_5_method_1_code_14) rfl rfl ?_
    show own_At p e below m T5 15 #[.val (.ref a1), .val (.long p2), .second, .val (.long p4), .second, .val (.ref r6)] [(.ref a1)] t
    refine XS.aload X5.here hx rfl (hb hby d_prog_5_method_1_code_15) rfl rfl ?_
    show own_At p e below m T5 17 #[.val (.ref a1), .val (.long p2), .second, .val (.long p4), .second, .val (.ref r6)] [(.ref r6), (.ref a1)] t
    refine st8 _ ?_
    show own_At p e below m T8 20 #[.val (.ref a1), .val (.long p2), .second, .val (.long p4), .second, .val (.ref r6)] [] t
    exact k
  have f10 := ((F2_holds.other W5 (Or.inr (slot_ne (Or.inr (own_w hw 18 rfl)) (Or.inr (own_w hw 20 rfl)) (by decide) (t := .long) (t' := .long) (by decide) (by decide)))).other W8 (Or.inr (slot_ne (Or.inr (own_w hw 18 rfl)) (Or.inr (own_w hw 22 rfl)) (by decide) (t := .long) (t' := (.object "java/lang/Boolean")) (by decide) (by decide))))
  have f11 := (F5_retryMillis.other W8 (Or.inr (slot_ne (Or.inr (own_w hw 20 rfl)) (Or.inr (own_w hw 22 rfl)) (by decide) (t := .long) (t' := (.object "java/lang/Boolean")) (by decide) (by decide))))
  have f12 := (f6.wr W8)
  obtain ⟨fs, hr, hrun, hended, hW, hsame⟩ := X8.leave (v := none) (fun _ => rfl)
  refine hNG ⟨_, _, k9 _ ?_, hrun, hended, _, _, rfl, ?_, ⟨_, rfl⟩, hW, hsame.mono (by decide) (by decide)⟩
  · exact X8.returnOut hx Bd.returns (hb hby d_prog_5_method_1_code_20) hr
  · show Q_ctor Z a1 p2 p4 r6 a_TRUE a_MILLISECONDS a_MILLISECONDS_name a_FALSE h0 n0 _ T8.heap _
    rw [e8]
    exact ⟨rfl, N8, O8, K8, f12, f10, f11, F8_heldBefore⟩
def own_held (p0 : Int64) (aT aF : Addr) : Addr := if (0 : Int32) < (lcmpW p0 (1 : Int64)) then aT else aF
theorem ef_of (m : MethodId) (x0 : Int64) (x1 : Int64)  : entryFrame m #[(.long x0), (.long x1)] 4 = mkF m 0 #[.val (.long x0), .second, .val (.long x1), .second] [] := by first | (simp [entryFrame, mkF, argsToLocals, Value.category]; done) | rfl
theorem d_prog_5_method_3_code_0 : decode prog_5_method_3_code 0 = .ok (.new 8, 3) := by decide +kernel
theorem d_prog_5_method_3_code_3 : decode prog_5_method_3_code 3 = .ok (.dup, 1) := by decide +kernel
theorem d_prog_5_method_3_code_4 : decode prog_5_method_3_code 4 = .ok (.lload_n 0, 1) := by decide +kernel
theorem d_prog_5_method_3_code_5 : decode prog_5_method_3_code 5 = .ok (.lload_n 2, 1) := by decide +kernel
theorem d_prog_5_method_3_code_6 : decode prog_5_method_3_code 6 = .ok (.lload_n 0, 1) := by decide +kernel
theorem d_prog_5_method_3_code_7 : decode prog_5_method_3_code 7 = .ok (.lconst 1, 1) := by decide +kernel
theorem d_prog_5_method_3_code_8 : decode prog_5_method_3_code 8 = .ok (.lcmp, 1) := by decide +kernel
theorem d_prog_5_method_3_code_9 : decode prog_5_method_3_code 9 = .ok (.ifCond .le 7, 3) := by decide +kernel
theorem d_prog_5_method_3_code_12 : decode prog_5_method_3_code 12 = .ok (.iconst 1, 1) := by decide +kernel
theorem d_prog_5_method_3_code_13 : decode prog_5_method_3_code 13 = .ok (.goto 4, 3) := by decide +kernel
theorem d_prog_5_method_3_code_17 : decode prog_5_method_3_code 17 = .ok (.invokestatic 36, 3) := by decide +kernel
theorem ef_f1 (m : MethodId) (x0 : Int32)  : entryFrame m #[(.int x0)] 1 = mkF m 0 #[.val (.int x0)] [] := by first | (simp [entryFrame, mkF, argsToLocals, Value.category]; done) | rfl
theorem d_jdk_2055_method_5_code_0 : decode jdk_2055_method_5_code 0 = .ok (.iload_n 0, 1) := by decide +kernel
theorem d_jdk_2055_method_5_code_1 : decode jdk_2055_method_5_code 1 = .ok (.ifCond .eq 9, 3) := by decide +kernel
theorem d_jdk_2055_method_5_code_4 : decode jdk_2055_method_5_code 4 = .ok (.getstatic 27, 3) := by decide +kernel
theorem d_jdk_2055_method_5_code_7 : decode jdk_2055_method_5_code 7 = .ok (.goto 6, 3) := by decide +kernel
theorem d_jdk_2055_method_5_code_13 : decode jdk_2055_method_5_code 13 = .ok (.areturn, 1) := by decide +kernel
theorem pn_java_lang_Boolean : plainName "java/lang/Boolean" = true := by first | (simp [plainName, overriddenIn]; done) | decide +kernel
abbrev own_m1 : MethodName := ⟨"java/lang/Boolean", "valueOf", "(Z)Ljava/lang/Boolean;"⟩
def Q_f1 (Z : State) (a_TRUE : Addr) (a_MILLISECONDS : Addr) (a_MILLISECONDS_name : Addr) (a_FALSE : Addr) (h0 : Heap) (n0 : Nat) (v : Option Value) (h : Heap) (L : List Loc) : Prop := v = some (.ref a_TRUE) ∧ Fr n0 L ∧ h = h0
set_option maxRecDepth 65536 in
set_option maxHeartbeats 40000000 in
theorem rm_f1 (l : Launch) (Z : State) (a0 : Array Value) (hw : ∀ d ∈ tables_1, d.before a0 Z = true) (ws : List Jvm.Cond) (a_TRUE : Addr) (a_MILLISECONDS : Addr) (a_MILLISECONDS_name : Addr) (a_FALSE : Addr) (h0 : Heap) (n0 : Nat) (O0 : Old Z n0 h0) (hE : EV Z a_TRUE a_MILLISECONDS a_MILLISECONDS_name a_FALSE) :
    MetFree l own_m1 (head1 (Jvm.Cond.code own_m1 jdk_2055_method_5_code 1 (some (.object "java/lang/Boolean")) :: ws) ({ frames := 0, cells := 0, slots := 0, locals := 0 } : Room)) (fun a U => a = #[(.int (1 : Int32))] ∧ Z.Warmed39 U.vm ∧ U.heap = h0) (fun _ _ _ _ _ => True) (fun _ U o U' => ∃ v L, o = .returned v ∧ Q_f1 Z a_TRUE a_MILLISECONDS a_MILLISECONDS_name a_FALSE h0 n0 v U'.heap L ∧ FrameEnd U o U' L ({ frames := 0, cells := 0, slots := 0, locals := 0 } : Room).cells ({ frames := 0, cells := 0, slots := 0, locals := 0 } : Room).slots) := by
  refine MetFree.of_bodySF (plainFor_of_name pn_java_lang_Boolean) hisR ?_
  intro p e s m args below meth c s₁ Bd hml0 hP hK
  obtain ⟨rfl, hZ, hh⟩ := hP
  have hx := Bd.exec
  have hby := Bd.bytes
  have hml : c.maxLocals = 1 := hml0
  have hown : s.vm.findClass "java/lang/Boolean" = some m.cls := findClass_of_methodNamed Bd.named
  have hnm := (name_of_methodNamed Bd.named Bd.method).1
  have X0 : Stand p l e ({ frames := 0, cells := 0, slots := 0, locals := 0 } : Room) s m #[(.int (1 : Int32))] below meth c s₁ [] 0 0 := Stand.of_body Bd
  have e0 : s₁.heap = h0 := by rw [← hh, Bd.state]; rfl
  have N0 := Fr.nil n0
  refine Classical.byContradiction fun hNG => ?_
  have K0 := Keep.refl h0 []
  have k0 : ∀ t, own_At p e below m s₁ 0 #[.val (.int (1 : Int32))] [] t → own_En p e below m s₁ #[(.int (1 : Int32))] 1 t := fun t k => castTop (ef_f1 m ((1 : Int32)) ) k
  obtain ⟨S_TRUE, E_TRUE, F_TRUE_value, S_MILLISECONDS, E_MILLISECONDS, F_MILLISECONDS_name, E_MILLISECONDS_name, F_MILLISECONDS_ordinal, F_MILLISECONDS_scale, F_MILLISECONDS_maxNanos, F_MILLISECONDS_microRatio, F_MILLISECONDS_maxMicros, F_MILLISECONDS_milliRatio, F_MILLISECONDS_maxMillis, F_MILLISECONDS_secRatio, F_MILLISECONDS_maxSecs, S_FALSE, E_FALSE, F_FALSE_value⟩ := (id hE : EV Z a_TRUE a_MILLISECONDS a_MILLISECONDS_name a_FALSE)
  obtain ⟨T1, X1, e1, st1⟩ := getS2 X0 hx hZ hown (host := "") (Or.inl (own_w hw 10 rfl)) Via.refl e0 (S_TRUE.ext O0.2) (g := (mkF m 4 #[.val (.int (1 : Int32))] [])) rfl (hb hby d_jdk_2055_method_5_code_4)
  have k2 : ∀ t, own_At p e below m T1 13 #[.val (.int (1 : Int32))] [(.ref a_TRUE)] t → own_En p e below m s₁ #[(.int (1 : Int32))] 1 t := by
    intro t k
    refine k0 t ?_
    refine XS.iloadN X0.here hx rfl (hb hby d_jdk_2055_method_5_code_0) rfl ?_
    show own_At p e below m s₁ 1 #[.val (.int (1 : Int32))] [(.int (1 : Int32))] t
    refine XS.ifNo X0.here hx rfl (hb hby d_jdk_2055_method_5_code_1) rfl ((if0 _ _).trans (feq (by decide : ¬ ((1 : Int32) = (0 : Int32)))).1) ?_
    show own_At p e below m s₁ 4 #[.val (.int (1 : Int32))] [] t
    refine st1 _ ?_
    show own_At p e below m T1 7 #[.val (.int (1 : Int32))] [(.ref a_TRUE)] t
    refine XS.goto X1.here hx rfl (pc0 := 7) (pc' := 13) rfl (hb hby d_jdk_2055_method_5_code_7) (by decide) (by decide) ?_
    show own_At p e below m T1 13 #[.val (.int (1 : Int32))] [(.ref a_TRUE)] t
    exact k
  obtain ⟨fs, hr, hrun, hended, hW, hsame⟩ := X1.leave (v := some (.ref a_TRUE)) (fun h => by rw [Bd.returns] at h; cases h)
  refine hNG ⟨_, _, k2 _ ?_, hrun, hended, _, _, rfl, ?_, ⟨_, rfl⟩, hW, hsame.mono (by decide) (by decide)⟩
  · exact retOut X1 hx (t := (.object "java/lang/Boolean")) Bd.returns rfl (Or.inr (Or.inr (Or.inr (Or.inr ⟨rfl, rfl, rfl⟩)))) (hb hby d_jdk_2055_method_5_code_13) hr
  · show Q_f1 Z a_TRUE a_MILLISECONDS a_MILLISECONDS_name a_FALSE h0 n0 _ T1.heap _
    rw [e1]
    exact ⟨rfl, N0, rfl⟩
theorem pd__Z_Ljava_lang_Boolean_ : parseMethodDescriptor "(Z)Ljava/lang/Boolean;" = some ⟨[.boolean], some (.object "java/lang/Boolean")⟩ := by decide +kernel
theorem d_prog_5_method_3_code_20 : decode prog_5_method_3_code 20 = .ok (.invokespecial 42, 3) := by decide +kernel
theorem pd__JJLjava_lang_Boolean__V : parseMethodDescriptor "(JJLjava/lang/Boolean;)V" = some ⟨[.long, .long, (.object "java/lang/Boolean")], none⟩ := by decide +kernel
theorem d_prog_5_method_3_code_23 : decode prog_5_method_3_code 23 = .ok (.areturn, 1) := by decide +kernel
theorem d_prog_5_method_3_code_16 : decode prog_5_method_3_code 16 = .ok (.iconst 0, 1) := by decide +kernel
theorem ef_f2 (m : MethodId) (x0 : Int32)  : entryFrame m #[(.int x0)] 1 = mkF m 0 #[.val (.int x0)] [] := by first | (simp [entryFrame, mkF, argsToLocals, Value.category]; done) | rfl
theorem d_jdk_2055_method_5_code_10 : decode jdk_2055_method_5_code 10 = .ok (.getstatic 31, 3) := by decide +kernel
def Q_f2 (Z : State) (a_TRUE : Addr) (a_MILLISECONDS : Addr) (a_MILLISECONDS_name : Addr) (a_FALSE : Addr) (h0 : Heap) (n0 : Nat) (v : Option Value) (h : Heap) (L : List Loc) : Prop := v = some (.ref a_FALSE) ∧ Fr n0 L ∧ h = h0
set_option maxRecDepth 65536 in
set_option maxHeartbeats 40000000 in
theorem rm_f2 (l : Launch) (Z : State) (a0 : Array Value) (hw : ∀ d ∈ tables_1, d.before a0 Z = true) (ws : List Jvm.Cond) (a_TRUE : Addr) (a_MILLISECONDS : Addr) (a_MILLISECONDS_name : Addr) (a_FALSE : Addr) (h0 : Heap) (n0 : Nat) (O0 : Old Z n0 h0) (hE : EV Z a_TRUE a_MILLISECONDS a_MILLISECONDS_name a_FALSE) :
    MetFree l own_m1 (head1 (Jvm.Cond.code own_m1 jdk_2055_method_5_code 1 (some (.object "java/lang/Boolean")) :: ws) ({ frames := 0, cells := 0, slots := 0, locals := 0 } : Room)) (fun a U => a = #[(.int (0 : Int32))] ∧ Z.Warmed39 U.vm ∧ U.heap = h0) (fun _ _ _ _ _ => True) (fun _ U o U' => ∃ v L, o = .returned v ∧ Q_f2 Z a_TRUE a_MILLISECONDS a_MILLISECONDS_name a_FALSE h0 n0 v U'.heap L ∧ FrameEnd U o U' L ({ frames := 0, cells := 0, slots := 0, locals := 0 } : Room).cells ({ frames := 0, cells := 0, slots := 0, locals := 0 } : Room).slots) := by
  refine MetFree.of_bodySF (plainFor_of_name pn_java_lang_Boolean) hisR ?_
  intro p e s m args below meth c s₁ Bd hml0 hP hK
  obtain ⟨rfl, hZ, hh⟩ := hP
  have hx := Bd.exec
  have hby := Bd.bytes
  have hml : c.maxLocals = 1 := hml0
  have hown : s.vm.findClass "java/lang/Boolean" = some m.cls := findClass_of_methodNamed Bd.named
  have hnm := (name_of_methodNamed Bd.named Bd.method).1
  have X0 : Stand p l e ({ frames := 0, cells := 0, slots := 0, locals := 0 } : Room) s m #[(.int (0 : Int32))] below meth c s₁ [] 0 0 := Stand.of_body Bd
  have e0 : s₁.heap = h0 := by rw [← hh, Bd.state]; rfl
  have N0 := Fr.nil n0
  refine Classical.byContradiction fun hNG => ?_
  have K0 := Keep.refl h0 []
  have k0 : ∀ t, own_At p e below m s₁ 0 #[.val (.int (0 : Int32))] [] t → own_En p e below m s₁ #[(.int (0 : Int32))] 1 t := fun t k => castTop (ef_f2 m ((0 : Int32)) ) k
  obtain ⟨S_TRUE, E_TRUE, F_TRUE_value, S_MILLISECONDS, E_MILLISECONDS, F_MILLISECONDS_name, E_MILLISECONDS_name, F_MILLISECONDS_ordinal, F_MILLISECONDS_scale, F_MILLISECONDS_maxNanos, F_MILLISECONDS_microRatio, F_MILLISECONDS_maxMicros, F_MILLISECONDS_milliRatio, F_MILLISECONDS_maxMillis, F_MILLISECONDS_secRatio, F_MILLISECONDS_maxSecs, S_FALSE, E_FALSE, F_FALSE_value⟩ := (id hE : EV Z a_TRUE a_MILLISECONDS a_MILLISECONDS_name a_FALSE)
  obtain ⟨T1, X1, e1, st1⟩ := getS2 X0 hx hZ hown (host := "") (Or.inl (own_w hw 68 rfl)) Via.refl e0 (S_FALSE.ext O0.2) (g := (mkF m 10 #[.val (.int (0 : Int32))] [])) rfl (hb hby d_jdk_2055_method_5_code_10)
  have k2 : ∀ t, own_At p e below m T1 13 #[.val (.int (0 : Int32))] [(.ref a_FALSE)] t → own_En p e below m s₁ #[(.int (0 : Int32))] 1 t := by
    intro t k
    refine k0 t ?_
    refine XS.iloadN X0.here hx rfl (hb hby d_jdk_2055_method_5_code_0) rfl ?_
    show own_At p e below m s₁ 1 #[.val (.int (0 : Int32))] [(.int (0 : Int32))] t
    refine XS.ifYes X0.here hx rfl (pc0 := 1) (pc' := 10) rfl (hb hby d_jdk_2055_method_5_code_1) rfl ((if0 _ _).trans (teq (by decide : (0 : Int32) = (0 : Int32))).1) (by decide) (by decide) ?_
    show own_At p e below m s₁ 10 #[.val (.int (0 : Int32))] [] t
    refine st1 _ ?_
    show own_At p e below m T1 13 #[.val (.int (0 : Int32))] [(.ref a_FALSE)] t
    exact k
  obtain ⟨fs, hr, hrun, hended, hW, hsame⟩ := X1.leave (v := some (.ref a_FALSE)) (fun h => by rw [Bd.returns] at h; cases h)
  refine hNG ⟨_, _, k2 _ ?_, hrun, hended, _, _, rfl, ?_, ⟨_, rfl⟩, hW, hsame.mono (by decide) (by decide)⟩
  · exact retOut X1 hx (t := (.object "java/lang/Boolean")) Bd.returns rfl (Or.inr (Or.inr (Or.inr (Or.inr ⟨rfl, rfl, rfl⟩)))) (hb hby d_jdk_2055_method_5_code_13) hr
  · show Q_f2 Z a_TRUE a_MILLISECONDS a_MILLISECONDS_name a_FALSE h0 n0 _ T1.heap _
    rw [e1]
    exact ⟨rfl, N0, rfl⟩
abbrev own_m2 : MethodName := ⟨"com/example/plus1/plus1/Take", "of", "(JJ)Lcom/example/plus1/plus1/Take;"⟩
def Q_of (Z : State) (p0 : Int64) (p1 : Int64) (a_TRUE : Addr) (a_MILLISECONDS : Addr) (a_MILLISECONDS_name : Addr) (a_FALSE : Addr) (h0 : Heap) (n0 : Nat) (v : Option Value) (h : Heap) (L : List Loc) : Prop := ∃ (b : Addr), v = some (.ref b) ∧ Fr n0 L ∧ Old Z n0 h ∧ Keep h0 h [] ∧ n0 ≤ b ∧ h0.size ≤ b ∧ Exa Z h b "com/example/plus1/plus1/Take" ∧ Fld Z h b "com/example/plus1/plus1/Take" "holds" "J" (.long p0) ∧ Fld Z h b "com/example/plus1/plus1/Take" "retryMillis" "J" (.long p1) ∧ Fld Z h b "com/example/plus1/plus1/Take" "heldBefore" "Ljava/lang/Boolean;" (.ref (own_held p0 a_TRUE a_FALSE))
set_option maxRecDepth 65536 in
set_option maxHeartbeats 40000000 in
theorem rm_of (l : Launch) (Z : State) (a0 : Array Value) (hw : ∀ d ∈ tables_1, d.before a0 Z = true) (ws : List Jvm.Cond) (p0 : Int64) (p1 : Int64) (a_TRUE : Addr) (a_MILLISECONDS : Addr) (a_MILLISECONDS_name : Addr) (a_FALSE : Addr) (h0 : Heap) (n0 : Nat) (O0 : Old Z n0 h0) (hE : EV Z a_TRUE a_MILLISECONDS a_MILLISECONDS_name a_FALSE) :
    MetFree l own_m2 (head1 (Jvm.Cond.code own_m2 prog_5_method_3_code 4 (some (.object "com/example/plus1/plus1/Take")) :: ws) ({ frames := 2, cells := 1, slots := 3, locals := 30 } : Room)) (fun a U => a = #[(.long p0), (.long p1)] ∧ Z.Warmed39 U.vm ∧ U.heap = h0) (fun _ _ _ _ _ => True) (fun _ U o U' => ∃ v L, o = .returned v ∧ Q_of Z p0 p1 a_TRUE a_MILLISECONDS a_MILLISECONDS_name a_FALSE h0 n0 v U'.heap L ∧ FrameEnd U o U' L ({ frames := 2, cells := 1, slots := 3, locals := 30 } : Room).cells ({ frames := 2, cells := 1, slots := 3, locals := 30 } : Room).slots) := by
  refine MetFree.of_bodySF (plainFor_of_name pn_com_example_plus1_plus1_Take) hisR ?_
  intro p e s m args below meth c s₁ Bd hml0 hP hK
  obtain ⟨rfl, hZ, hh⟩ := hP
  have hx := Bd.exec
  have hby := Bd.bytes
  have hml : c.maxLocals = 4 := hml0
  have hown : s.vm.findClass "com/example/plus1/plus1/Take" = some m.cls := findClass_of_methodNamed Bd.named
  have hnm := (name_of_methodNamed Bd.named Bd.method).1
  have X0 : Stand p l e ({ frames := 2, cells := 1, slots := 3, locals := 30 } : Room) s m #[(.long p0), (.long p1)] below meth c s₁ [] 0 0 := Stand.of_body Bd
  have e0 : s₁.heap = h0 := by rw [← hh, Bd.state]; rfl
  have N0 := Fr.nil n0
  refine Classical.byContradiction fun hNG => ?_
  have K0 := Keep.refl h0 []
  have k0 : ∀ t, own_At p e below m s₁ 0 #[.val (.long p0), .second, .val (.long p1), .second] [] t → own_En p e below m s₁ #[(.long p0), (.long p1)] 4 t := fun t k => castTop (ef_of m p0 p1 ) k
  obtain ⟨S_TRUE, E_TRUE, F_TRUE_value, S_MILLISECONDS, E_MILLISECONDS, F_MILLISECONDS_name, E_MILLISECONDS_name, F_MILLISECONDS_ordinal, F_MILLISECONDS_scale, F_MILLISECONDS_maxNanos, F_MILLISECONDS_microRatio, F_MILLISECONDS_maxMicros, F_MILLISECONDS_milliRatio, F_MILLISECONDS_maxMillis, F_MILLISECONDS_secRatio, F_MILLISECONDS_maxSecs, S_FALSE, E_FALSE, F_FALSE_value⟩ := (id hE : EV Z a_TRUE a_MILLISECONDS a_MILLISECONDS_name a_FALSE)
  obtain ⟨T1, h1, X1, e1, E1, A1, D1, -, st1⟩ := newO X0 hx hZ hown (own_w hw 4 rfl) (own_w hw 5 rfl) (own_w hw 2 rfl) e0 (g := (mkF m 0 #[.val (.long p0), .second, .val (.long p1), .second] [])) rfl (hb hby d_prog_5_method_3_code_0) (by decide) (by decide)
  obtain ⟨b1, g1⟩ : ∃ z, z = h0.size := ⟨_, rfl⟩
  rw [← g1] at A1 D1 st1
  have O1 := O0.ext E1
  have g_b1 : n0 ≤ b1 := Nat.le_trans (Nat.le_of_eq O0.1.symm) (Nat.le_trans O0.2.1 (Nat.le_of_eq g1.symm))
  have s_b1 : h0.size ≤ b1 := Nat.le_trans K0.1 (Nat.le_of_eq g1.symm)
  have K1 := K0.ext E1
  have lt_b1 := A1.lt
  have F1_holds : Fld Z h1 b1 "com/example/plus1/plus1/Take" "holds" "J" (.long (0 : Int64)) := D1 (Or.inr (own_w hw 18 rfl)) (ty := .long) (by decide)
  have F1_retryMillis : Fld Z h1 b1 "com/example/plus1/plus1/Take" "retryMillis" "J" (.long (0 : Int64)) := D1 (Or.inr (own_w hw 20 rfl)) (ty := .long) (by decide)
  have F1_heldBefore : Fld Z h1 b1 "com/example/plus1/plus1/Take" "heldBefore" "Ljava/lang/Boolean;" .null := D1 (Or.inr (own_w hw 22 rfl)) (ty := (.object "java/lang/Boolean")) (by decide)
  have k2 : ∀ t, own_At p e below m T1 9 #[.val (.long p0), .second, .val (.long p1), .second] [(.int (lcmpW p0 (1 : Int64))), (.long p1), (.long p0), (.ref b1), (.ref b1)] t → own_En p e below m s₁ #[(.long p0), (.long p1)] 4 t := by
    intro t k
    refine k0 t ?_
    refine st1 _ ?_
    show own_At p e below m T1 3 #[.val (.long p0), .second, .val (.long p1), .second] [(.ref b1)] t
    refine XS.dup X1.here hx rfl (hb hby d_prog_5_method_3_code_3) rfl rfl ?_
    show own_At p e below m T1 4 #[.val (.long p0), .second, .val (.long p1), .second] [(.ref b1), (.ref b1)] t
    refine XS.lloadN X1.here hx rfl (hb hby d_prog_5_method_3_code_4) rfl ?_
    show own_At p e below m T1 5 #[.val (.long p0), .second, .val (.long p1), .second] [(.long p0), (.ref b1), (.ref b1)] t
    refine XS.lloadN X1.here hx rfl (hb hby d_prog_5_method_3_code_5) rfl ?_
    show own_At p e below m T1 6 #[.val (.long p0), .second, .val (.long p1), .second] [(.long p1), (.long p0), (.ref b1), (.ref b1)] t
    refine XS.lloadN X1.here hx rfl (hb hby d_prog_5_method_3_code_6) rfl ?_
    show own_At p e below m T1 7 #[.val (.long p0), .second, .val (.long p1), .second] [(.long p0), (.long p1), (.long p0), (.ref b1), (.ref b1)] t
    refine XS.lconst X1.here hx rfl (hb hby d_prog_5_method_3_code_7) ?_
    show own_At p e below m T1 8 #[.val (.long p0), .second, .val (.long p1), .second] [(.long (1 : Int64)), (.long p0), (.long p1), (.long p0), (.ref b1), (.ref b1)] t
    refine XS.lcmp X1.here hx rfl (hb hby d_prog_5_method_3_code_8) rfl ?_
    show own_At p e below m T1 9 #[.val (.long p0), .second, .val (.long p1), .second] [(.int (lcmpW p0 (1 : Int64))), (.long p1), (.long p0), (.ref b1), (.ref b1)] t
    exact k
  by_cases hc3 : (0 : Int32) < (lcmpW p0 (1 : Int64))
  · obtain ⟨_, _, ⟨T4, L4, k4, n4⟩, -, X4, ⟨Lc4, hQ4, l4, y4, z4⟩, st4⟩ := Jvm.LawKit.callS X1 hx (y := own_m1) hown (mvT hZ (own_w hw 6 rfl)) (mvT hZ (own_w hw 7 rfl)) (mvT hZ (own_w hw 8 rfl)) (mvT hZ (own_w hw 9 rfl)) (by decide) (backOf (W := 6) (rm_f1 l Z a0 hw []  _ _ _ _ h1 n0 O1 hE) hZ (own_w hw 9 rfl) (own_w hw 8 rfl) (by decide) (by decide)) (g := (mkF m 17 #[.val (.long p0), .second, .val (.long p1), .second] [(.int (1 : Int32)), (.long p1), (.long p0), (.ref b1), (.ref b1)])) rfl (by rw [hml]; rfl) (argsL := [(.int (1 : Int32))]) (rest := [(.long p1), (.long p0), (.ref b1), (.ref b1)]) (lenOf pd__Z_Ljava_lang_Boolean_ rfl) rfl (by show 2 * 0 + _ ≤ _; exact Nat.le_of_eq rfl) (hb hby d_prog_5_method_3_code_17) (fun _ _ => ⟨rfl, e1, (by decide : 1 + 0 ≤ _), (by decide : 3 + 0 ≤ _)⟩)
    dsimp only [Pt.U, Pt.locs, Pt.cells, Pt.slots] at X4 l4 y4 z4 st4 hQ4
    subst l4 y4 z4
    obtain ⟨rfl, N4q, hp4⟩ := hQ4
    have N4 := Fr.app N0 N4q
    obtain ⟨_, _, ⟨T5, L5, k5, n5⟩, -, X5, ⟨Lc5, hQ5, l5, y5, z5⟩, st5⟩ := X4.specialBack hx (y := own_m0) rfl hown (mvT hZ (own_w hw 11 rfl)) (mvT hZ (own_w hw 12 rfl)) (mvT hZ (own_w hw 13 rfl)) (by decide) (backOf (W := 1) (rm_ctor l Z a0 hw [] b1 p0 p1 a_TRUE _ _ _ _ h1 n0 O1 hE F1_holds F1_retryMillis F1_heldBefore A1 g_b1 ) hZ (own_w hw 13 rfl) (own_w hw 2 rfl) (by decide) (by decide)) (g := (mkF m 20 #[.val (.long p0), .second, .val (.long p1), .second] [(.ref a_TRUE), (.long p1), (.long p0), (.ref b1), (.ref b1)])) rfl (by rw [hml]; rfl) (Steps.refl _) (a := b1) (argsL := [(.long p0), (.long p1), (.ref a_TRUE)]) (rest := [(.ref b1)]) (lenOf pd__JJLjava_lang_Boolean__V rfl) rfl (by show 2 * 0 + _ ≤ _; exact Nat.le_of_eq rfl) (hb hby d_prog_5_method_3_code_20) (fun _ _ => ⟨rfl, hp4, (by decide : 1 + 0 ≤ _), (by decide : 3 + 0 ≤ _)⟩)
    dsimp only [Pt.U, Pt.locs, Pt.cells, Pt.slots] at X5 l5 y5 z5 st5 hQ5
    subst l5 y5 z5
    obtain ⟨rfl, N5q, O5, Kc5, Ex5, G5_0, G5_1, G5_2⟩ := hQ5
    have N5 := Fr.app N4 N5q
    have K5 := K1.trans Kc5 (allS (Or.inr s_b1) all0)
    have k6 : ∀ t, own_At p e below m T5 23 #[.val (.long p0), .second, .val (.long p1), .second] [(.ref b1)] t → own_En p e below m s₁ #[(.long p0), (.long p1)] 4 t := by
      intro t k
      refine k2 t ?_
      refine XS.ifNo X1.here hx rfl (hb hby d_prog_5_method_3_code_9) rfl ((if0 _ _).trans (tlt hc3).2.2.2) ?_
      show own_At p e below m T1 12 #[.val (.long p0), .second, .val (.long p1), .second] [(.long p1), (.long p0), (.ref b1), (.ref b1)] t
      refine XS.iconst X1.here hx rfl (hb hby d_prog_5_method_3_code_12) ?_
      show own_At p e below m T1 13 #[.val (.long p0), .second, .val (.long p1), .second] [(.int (1 : Int32)), (.long p1), (.long p0), (.ref b1), (.ref b1)] t
      refine XS.goto X1.here hx rfl (pc0 := 13) (pc' := 17) rfl (hb hby d_prog_5_method_3_code_13) (by decide) (by decide) ?_
      show own_At p e below m T1 17 #[.val (.long p0), .second, .val (.long p1), .second] [(.int (1 : Int32)), (.long p1), (.long p0), (.ref b1), (.ref b1)] t
      refine st4 _ ?_
      show own_At p e below m T4 20 #[.val (.long p0), .second, .val (.long p1), .second] [(.ref a_TRUE), (.long p1), (.long p0), (.ref b1), (.ref b1)] t
      refine st5.trans ?_
      show own_At p e below m T5 23 #[.val (.long p0), .second, .val (.long p1), .second] [(.ref b1)] t
      exact k
    obtain ⟨fs, hr, hrun, hended, hW, hsame⟩ := X5.leave (v := some (.ref b1)) (fun h => by rw [Bd.returns] at h; cases h)
    refine hNG ⟨_, _, k6 _ ?_, hrun, hended, _, _, rfl, ?_, ⟨_, rfl⟩, hW, hsame.mono (by decide) (by decide)⟩
    · exact retOut X5 hx (t := (.object "com/example/plus1/plus1/Take")) Bd.returns rfl (Or.inr (Or.inr (Or.inr (Or.inr ⟨rfl, rfl, rfl⟩)))) (hb hby d_prog_5_method_3_code_23) hr
    · show Q_of Z p0 p1 a_TRUE a_MILLISECONDS a_MILLISECONDS_name a_FALSE h0 n0 _ T5.heap _
      have eh : own_held p0 a_TRUE a_FALSE = a_TRUE := if_pos hc3
      exact ⟨_, rfl, N5, O5, K5, g_b1, s_b1, Ex5, G5_0, G5_1, by rw [eh]; exact G5_2⟩
  · obtain ⟨_, _, ⟨T7, L7, k7, n7⟩, -, X7, ⟨Lc7, hQ7, l7, y7, z7⟩, st7⟩ := Jvm.LawKit.callS X1 hx (y := own_m1) hown (mvT hZ (own_w hw 6 rfl)) (mvT hZ (own_w hw 7 rfl)) (mvT hZ (own_w hw 8 rfl)) (mvT hZ (own_w hw 9 rfl)) (by decide) (backOf (W := 6) (rm_f2 l Z a0 hw []  _ _ _ _ h1 n0 O1 hE) hZ (own_w hw 9 rfl) (own_w hw 8 rfl) (by decide) (by decide)) (g := (mkF m 17 #[.val (.long p0), .second, .val (.long p1), .second] [(.int (0 : Int32)), (.long p1), (.long p0), (.ref b1), (.ref b1)])) rfl (by rw [hml]; rfl) (argsL := [(.int (0 : Int32))]) (rest := [(.long p1), (.long p0), (.ref b1), (.ref b1)]) (lenOf pd__Z_Ljava_lang_Boolean_ rfl) rfl (by show 2 * 0 + _ ≤ _; exact Nat.le_of_eq rfl) (hb hby d_prog_5_method_3_code_17) (fun _ _ => ⟨rfl, e1, (by decide : 1 + 0 ≤ _), (by decide : 3 + 0 ≤ _)⟩)
    dsimp only [Pt.U, Pt.locs, Pt.cells, Pt.slots] at X7 l7 y7 z7 st7 hQ7
    subst l7 y7 z7
    obtain ⟨rfl, N7q, hp7⟩ := hQ7
    have N7 := Fr.app N0 N7q
    obtain ⟨_, _, ⟨T8, L8, k8, n8⟩, -, X8, ⟨Lc8, hQ8, l8, y8, z8⟩, st8⟩ := X7.specialBack hx (y := own_m0) rfl hown (mvT hZ (own_w hw 11 rfl)) (mvT hZ (own_w hw 12 rfl)) (mvT hZ (own_w hw 13 rfl)) (by decide) (backOf (W := 1) (rm_ctor l Z a0 hw [] b1 p0 p1 a_FALSE _ _ _ _ h1 n0 O1 hE F1_holds F1_retryMillis F1_heldBefore A1 g_b1 ) hZ (own_w hw 13 rfl) (own_w hw 2 rfl) (by decide) (by decide)) (g := (mkF m 20 #[.val (.long p0), .second, .val (.long p1), .second] [(.ref a_FALSE), (.long p1), (.long p0), (.ref b1), (.ref b1)])) rfl (by rw [hml]; rfl) (Steps.refl _) (a := b1) (argsL := [(.long p0), (.long p1), (.ref a_FALSE)]) (rest := [(.ref b1)]) (lenOf pd__JJLjava_lang_Boolean__V rfl) rfl (by show 2 * 0 + _ ≤ _; exact Nat.le_of_eq rfl) (hb hby d_prog_5_method_3_code_20) (fun _ _ => ⟨rfl, hp7, (by decide : 1 + 0 ≤ _), (by decide : 3 + 0 ≤ _)⟩)
    dsimp only [Pt.U, Pt.locs, Pt.cells, Pt.slots] at X8 l8 y8 z8 st8 hQ8
    subst l8 y8 z8
    obtain ⟨rfl, N8q, O8, Kc8, Ex8, G8_0, G8_1, G8_2⟩ := hQ8
    have N8 := Fr.app N7 N8q
    have K8 := K1.trans Kc8 (allS (Or.inr s_b1) all0)
    have k9 : ∀ t, own_At p e below m T8 23 #[.val (.long p0), .second, .val (.long p1), .second] [(.ref b1)] t → own_En p e below m s₁ #[(.long p0), (.long p1)] 4 t := by
      intro t k
      refine k2 t ?_
      refine XS.ifYes X1.here hx rfl (pc0 := 9) (pc' := 16) rfl (hb hby d_prog_5_method_3_code_9) rfl ((if0 _ _).trans (flt hc3).2.2.2) (by decide) (by decide) ?_
      show own_At p e below m T1 16 #[.val (.long p0), .second, .val (.long p1), .second] [(.long p1), (.long p0), (.ref b1), (.ref b1)] t
      refine XS.iconst X1.here hx rfl (hb hby d_prog_5_method_3_code_16) ?_
      show own_At p e below m T1 17 #[.val (.long p0), .second, .val (.long p1), .second] [(.int (0 : Int32)), (.long p1), (.long p0), (.ref b1), (.ref b1)] t
      refine st7 _ ?_
      show own_At p e below m T7 20 #[.val (.long p0), .second, .val (.long p1), .second] [(.ref a_FALSE), (.long p1), (.long p0), (.ref b1), (.ref b1)] t
      refine st8.trans ?_
      show own_At p e below m T8 23 #[.val (.long p0), .second, .val (.long p1), .second] [(.ref b1)] t
      exact k
    obtain ⟨fs, hr, hrun, hended, hW, hsame⟩ := X8.leave (v := some (.ref b1)) (fun h => by rw [Bd.returns] at h; cases h)
    refine hNG ⟨_, _, k9 _ ?_, hrun, hended, _, _, rfl, ?_, ⟨_, rfl⟩, hW, hsame.mono (by decide) (by decide)⟩
    · exact retOut X8 hx (t := (.object "com/example/plus1/plus1/Take")) Bd.returns rfl (Or.inr (Or.inr (Or.inr (Or.inr ⟨rfl, rfl, rfl⟩)))) (hb hby d_prog_5_method_3_code_23) hr
    · show Q_of Z p0 p1 a_TRUE a_MILLISECONDS a_MILLISECONDS_name a_FALSE h0 n0 _ T8.heap _
      have eh : own_held p0 a_TRUE a_FALSE = a_FALSE := if_neg hc3
      exact ⟨_, rfl, N8, O8, K8, g_b1, s_b1, Ex8, G8_0, G8_1, by rw [eh]; exact G8_2⟩
theorem ef_holds (m : MethodId) (x0 : Addr)  : entryFrame m #[(.ref x0)] 1 = mkF m 0 #[.val (.ref x0)] [] := by first | (simp [entryFrame, mkF, argsToLocals, Value.category]; done) | rfl
theorem d_prog_5_method_6_code_0 : decode prog_5_method_6_code 0 = .ok (.aload_n 0, 1) := by decide +kernel
theorem d_prog_5_method_6_code_1 : decode prog_5_method_6_code 1 = .ok (.getfield 7, 3) := by decide +kernel
theorem d_prog_5_method_6_code_4 : decode prog_5_method_6_code 4 = .ok (.lreturn, 1) := by decide +kernel
abbrev own_m3 : MethodName := ⟨"com/example/plus1/plus1/Take", "holds", "()J"⟩
def Q_holds (Z : State) (q0 : Addr) (p0 : Int64) (a_TRUE : Addr) (a_MILLISECONDS : Addr) (a_MILLISECONDS_name : Addr) (a_FALSE : Addr) (h0 : Heap) (n0 : Nat) (v : Option Value) (h : Heap) (L : List Loc) : Prop := v = some (.long p0) ∧ Fr n0 L ∧ h = h0
set_option maxRecDepth 65536 in
set_option maxHeartbeats 40000000 in
theorem rm_holds (l : Launch) (Z : State) (a0 : Array Value) (hw : ∀ d ∈ tables_1, d.before a0 Z = true) (ws : List Jvm.Cond) (q0 : Addr) (p0 : Int64) (a_TRUE : Addr) (a_MILLISECONDS : Addr) (a_MILLISECONDS_name : Addr) (a_FALSE : Addr) (h0 : Heap) (n0 : Nat) (O0 : Old Z n0 h0) (hE : EV Z a_TRUE a_MILLISECONDS a_MILLISECONDS_name a_FALSE) (F0 : Fld Z h0 q0 "com/example/plus1/plus1/Take" "holds" "J" (.long p0)) :
    MetFree l own_m3 (head1 (Jvm.Cond.code own_m3 prog_5_method_6_code 1 (some .long) :: ws) ({ frames := 0, cells := 0, slots := 0, locals := 0 } : Room)) (fun a U => a = #[(.ref q0)] ∧ Z.Warmed39 U.vm ∧ U.heap = h0) (fun _ _ _ _ _ => True) (fun _ U o U' => ∃ v L, o = .returned v ∧ Q_holds Z q0 p0 a_TRUE a_MILLISECONDS a_MILLISECONDS_name a_FALSE h0 n0 v U'.heap L ∧ FrameEnd U o U' L ({ frames := 0, cells := 0, slots := 0, locals := 0 } : Room).cells ({ frames := 0, cells := 0, slots := 0, locals := 0 } : Room).slots) := by
  refine MetFree.of_bodySF (plainFor_of_name pn_com_example_plus1_plus1_Take) hisR ?_
  intro p e s m args below meth c s₁ Bd hml0 hP hK
  obtain ⟨rfl, hZ, hh⟩ := hP
  have hx := Bd.exec
  have hby := Bd.bytes
  have hml : c.maxLocals = 1 := hml0
  have hown : s.vm.findClass "com/example/plus1/plus1/Take" = some m.cls := findClass_of_methodNamed Bd.named
  have hnm := (name_of_methodNamed Bd.named Bd.method).1
  have X0 : Stand p l e ({ frames := 0, cells := 0, slots := 0, locals := 0 } : Room) s m #[(.ref q0)] below meth c s₁ [] 0 0 := Stand.of_body Bd
  have e0 : s₁.heap = h0 := by rw [← hh, Bd.state]; rfl
  have N0 := Fr.nil n0
  refine Classical.byContradiction fun hNG => ?_
  have K0 := Keep.refl h0 []
  have k0 : ∀ t, own_At p e below m s₁ 0 #[.val (.ref q0)] [] t → own_En p e below m s₁ #[(.ref q0)] 1 t := fun t k => castTop (ef_holds m q0 ) k
  obtain ⟨S_TRUE, E_TRUE, F_TRUE_value, S_MILLISECONDS, E_MILLISECONDS, F_MILLISECONDS_name, E_MILLISECONDS_name, F_MILLISECONDS_ordinal, F_MILLISECONDS_scale, F_MILLISECONDS_maxNanos, F_MILLISECONDS_microRatio, F_MILLISECONDS_maxMicros, F_MILLISECONDS_milliRatio, F_MILLISECONDS_maxMillis, F_MILLISECONDS_secRatio, F_MILLISECONDS_maxSecs, S_FALSE, E_FALSE, F_FALSE_value⟩ := (id hE : EV Z a_TRUE a_MILLISECONDS a_MILLISECONDS_name a_FALSE)
  obtain ⟨T1, X1, e1, st1⟩ := getF X0 hx hZ hown (host := "") (Or.inl (own_w hw 17 rfl)) Via.refl e0 F0 (g := (mkF m 1 #[.val (.ref q0)] [(.ref q0)])) rfl rfl (hb hby d_prog_5_method_6_code_1)
  have k2 : ∀ t, own_At p e below m T1 4 #[.val (.ref q0)] [(.long p0)] t → own_En p e below m s₁ #[(.ref q0)] 1 t := by
    intro t k
    refine k0 t ?_
    refine XS.aloadN X0.here hx rfl (hb hby d_prog_5_method_6_code_0) rfl rfl ?_
    show own_At p e below m s₁ 1 #[.val (.ref q0)] [(.ref q0)] t
    refine st1 _ ?_
    show own_At p e below m T1 4 #[.val (.ref q0)] [(.long p0)] t
    exact k
  obtain ⟨fs, hr, hrun, hended, hW, hsame⟩ := X1.leave (v := some (.long p0)) (fun h => by rw [Bd.returns] at h; cases h)
  refine hNG ⟨_, _, k2 _ ?_, hrun, hended, _, _, rfl, ?_, ⟨_, rfl⟩, hW, hsame.mono (by decide) (by decide)⟩
  · exact retOut X1 hx (t := .long) Bd.returns rfl (Or.inr (Or.inl ⟨rfl, rfl, _, rfl⟩)) (hb hby d_prog_5_method_6_code_4) hr
  · show Q_holds Z q0 p0 a_TRUE a_MILLISECONDS a_MILLISECONDS_name a_FALSE h0 n0 _ T1.heap _
    rw [e1]
    exact ⟨rfl, N0, rfl⟩
theorem ef_taken_t (m : MethodId) (x0 : Addr)  : entryFrame m #[(.ref x0)] 1 = mkF m 0 #[.val (.ref x0)] [] := by first | (simp [entryFrame, mkF, argsToLocals, Value.category]; done) | rfl
theorem d_prog_5_method_5_code_0 : decode prog_5_method_5_code 0 = .ok (.aload_n 0, 1) := by decide +kernel
theorem d_prog_5_method_5_code_1 : decode prog_5_method_5_code 1 = .ok (.getfield 7, 3) := by decide +kernel
theorem d_prog_5_method_5_code_4 : decode prog_5_method_5_code 4 = .ok (.lconst 0, 1) := by decide +kernel
theorem d_prog_5_method_5_code_5 : decode prog_5_method_5_code 5 = .ok (.lcmp, 1) := by decide +kernel
theorem d_prog_5_method_5_code_6 : decode prog_5_method_5_code 6 = .ok (.ifCond .le 7, 3) := by decide +kernel
theorem d_prog_5_method_5_code_9 : decode prog_5_method_5_code 9 = .ok (.iconst 1, 1) := by decide +kernel
theorem d_prog_5_method_5_code_10 : decode prog_5_method_5_code 10 = .ok (.goto 4, 3) := by decide +kernel
theorem d_prog_5_method_5_code_14 : decode prog_5_method_5_code 14 = .ok (.ireturn, 1) := by decide +kernel
abbrev own_m4 : MethodName := ⟨"com/example/plus1/plus1/Take", "taken", "()Z"⟩
def Q_taken_t (Z : State) (q0 : Addr) (p0 : Int64) (a_TRUE : Addr) (a_MILLISECONDS : Addr) (a_MILLISECONDS_name : Addr) (a_FALSE : Addr) (h0 : Heap) (n0 : Nat) (v : Option Value) (h : Heap) (L : List Loc) : Prop := v = some (.int (1 : Int32)) ∧ Fr n0 L ∧ h = h0
set_option maxRecDepth 65536 in
set_option maxHeartbeats 40000000 in
theorem rm_taken_t (l : Launch) (Z : State) (a0 : Array Value) (hw : ∀ d ∈ tables_1, d.before a0 Z = true) (ws : List Jvm.Cond) (q0 : Addr) (p0 : Int64) (a_TRUE : Addr) (a_MILLISECONDS : Addr) (a_MILLISECONDS_name : Addr) (a_FALSE : Addr) (h0 : Heap) (n0 : Nat) (O0 : Old Z n0 h0) (hE : EV Z a_TRUE a_MILLISECONDS a_MILLISECONDS_name a_FALSE) (F0 : Fld Z h0 q0 "com/example/plus1/plus1/Take" "holds" "J" (.long p0)) (hgt : (0 : Int32) < (lcmpW p0 (0 : Int64))) :
    MetFree l own_m4 (head1 (Jvm.Cond.code own_m4 prog_5_method_5_code 1 (some .boolean) :: ws) ({ frames := 0, cells := 0, slots := 0, locals := 0 } : Room)) (fun a U => a = #[(.ref q0)] ∧ Z.Warmed39 U.vm ∧ U.heap = h0) (fun _ _ _ _ _ => True) (fun _ U o U' => ∃ v L, o = .returned v ∧ Q_taken_t Z q0 p0 a_TRUE a_MILLISECONDS a_MILLISECONDS_name a_FALSE h0 n0 v U'.heap L ∧ FrameEnd U o U' L ({ frames := 0, cells := 0, slots := 0, locals := 0 } : Room).cells ({ frames := 0, cells := 0, slots := 0, locals := 0 } : Room).slots) := by
  refine MetFree.of_bodySF (plainFor_of_name pn_com_example_plus1_plus1_Take) hisR ?_
  intro p e s m args below meth c s₁ Bd hml0 hP hK
  obtain ⟨rfl, hZ, hh⟩ := hP
  have hx := Bd.exec
  have hby := Bd.bytes
  have hml : c.maxLocals = 1 := hml0
  have hown : s.vm.findClass "com/example/plus1/plus1/Take" = some m.cls := findClass_of_methodNamed Bd.named
  have hnm := (name_of_methodNamed Bd.named Bd.method).1
  have X0 : Stand p l e ({ frames := 0, cells := 0, slots := 0, locals := 0 } : Room) s m #[(.ref q0)] below meth c s₁ [] 0 0 := Stand.of_body Bd
  have e0 : s₁.heap = h0 := by rw [← hh, Bd.state]; rfl
  have N0 := Fr.nil n0
  refine Classical.byContradiction fun hNG => ?_
  have K0 := Keep.refl h0 []
  have k0 : ∀ t, own_At p e below m s₁ 0 #[.val (.ref q0)] [] t → own_En p e below m s₁ #[(.ref q0)] 1 t := fun t k => castTop (ef_taken_t m q0 ) k
  obtain ⟨S_TRUE, E_TRUE, F_TRUE_value, S_MILLISECONDS, E_MILLISECONDS, F_MILLISECONDS_name, E_MILLISECONDS_name, F_MILLISECONDS_ordinal, F_MILLISECONDS_scale, F_MILLISECONDS_maxNanos, F_MILLISECONDS_microRatio, F_MILLISECONDS_maxMicros, F_MILLISECONDS_milliRatio, F_MILLISECONDS_maxMillis, F_MILLISECONDS_secRatio, F_MILLISECONDS_maxSecs, S_FALSE, E_FALSE, F_FALSE_value⟩ := (id hE : EV Z a_TRUE a_MILLISECONDS a_MILLISECONDS_name a_FALSE)
  obtain ⟨T1, X1, e1, st1⟩ := getF X0 hx hZ hown (host := "") (Or.inl (own_w hw 17 rfl)) Via.refl e0 F0 (g := (mkF m 1 #[.val (.ref q0)] [(.ref q0)])) rfl rfl (hb hby d_prog_5_method_5_code_1)
  have k2 : ∀ t, own_At p e below m T1 14 #[.val (.ref q0)] [(.int (1 : Int32))] t → own_En p e below m s₁ #[(.ref q0)] 1 t := by
    intro t k
    refine k0 t ?_
    refine XS.aloadN X0.here hx rfl (hb hby d_prog_5_method_5_code_0) rfl rfl ?_
    show own_At p e below m s₁ 1 #[.val (.ref q0)] [(.ref q0)] t
    refine st1 _ ?_
    show own_At p e below m T1 4 #[.val (.ref q0)] [(.long p0)] t
    refine XS.lconst X1.here hx rfl (hb hby d_prog_5_method_5_code_4) ?_
    show own_At p e below m T1 5 #[.val (.ref q0)] [(.long (0 : Int64)), (.long p0)] t
    refine XS.lcmp X1.here hx rfl (hb hby d_prog_5_method_5_code_5) rfl ?_
    show own_At p e below m T1 6 #[.val (.ref q0)] [(.int (lcmpW p0 (0 : Int64)))] t
    refine XS.ifNo X1.here hx rfl (hb hby d_prog_5_method_5_code_6) rfl ((if0 _ _).trans (tlt hgt).2.2.2) ?_
    show own_At p e below m T1 9 #[.val (.ref q0)] [] t
    refine XS.iconst X1.here hx rfl (hb hby d_prog_5_method_5_code_9) ?_
    show own_At p e below m T1 10 #[.val (.ref q0)] [(.int (1 : Int32))] t
    refine XS.goto X1.here hx rfl (pc0 := 10) (pc' := 14) rfl (hb hby d_prog_5_method_5_code_10) (by decide) (by decide) ?_
    show own_At p e below m T1 14 #[.val (.ref q0)] [(.int (1 : Int32))] t
    exact k
  obtain ⟨fs, hr, hrun, hended, hW, hsame⟩ := X1.leave (v := some (.int (1 : Int32))) (fun h => by rw [Bd.returns] at h; cases h)
  refine hNG ⟨_, _, k2 _ ?_, hrun, hended, _, _, rfl, ?_, ⟨_, rfl⟩, hW, hsame.mono (by decide) (by decide)⟩
  · exact retN X1 hx (t := .boolean) Bd.returns (by simp) (hb hby d_prog_5_method_5_code_14) hr
  · show Q_taken_t Z q0 p0 a_TRUE a_MILLISECONDS a_MILLISECONDS_name a_FALSE h0 n0 _ T1.heap _
    rw [e1]
    exact ⟨rfl, N0, rfl⟩
theorem ef_taken_f (m : MethodId) (x0 : Addr)  : entryFrame m #[(.ref x0)] 1 = mkF m 0 #[.val (.ref x0)] [] := by first | (simp [entryFrame, mkF, argsToLocals, Value.category]; done) | rfl
theorem d_prog_5_method_5_code_13 : decode prog_5_method_5_code 13 = .ok (.iconst 0, 1) := by decide +kernel
def Q_taken_f (Z : State) (q0 : Addr) (p0 : Int64) (a_TRUE : Addr) (a_MILLISECONDS : Addr) (a_MILLISECONDS_name : Addr) (a_FALSE : Addr) (h0 : Heap) (n0 : Nat) (v : Option Value) (h : Heap) (L : List Loc) : Prop := v = some (.int (0 : Int32)) ∧ Fr n0 L ∧ h = h0
set_option maxRecDepth 65536 in
set_option maxHeartbeats 40000000 in
theorem rm_taken_f (l : Launch) (Z : State) (a0 : Array Value) (hw : ∀ d ∈ tables_1, d.before a0 Z = true) (ws : List Jvm.Cond) (q0 : Addr) (p0 : Int64) (a_TRUE : Addr) (a_MILLISECONDS : Addr) (a_MILLISECONDS_name : Addr) (a_FALSE : Addr) (h0 : Heap) (n0 : Nat) (O0 : Old Z n0 h0) (hE : EV Z a_TRUE a_MILLISECONDS a_MILLISECONDS_name a_FALSE) (F0 : Fld Z h0 q0 "com/example/plus1/plus1/Take" "holds" "J" (.long p0)) (hgt : ¬ ((0 : Int32) < (lcmpW p0 (0 : Int64)))) :
    MetFree l own_m4 (head1 (Jvm.Cond.code own_m4 prog_5_method_5_code 1 (some .boolean) :: ws) ({ frames := 0, cells := 0, slots := 0, locals := 0 } : Room)) (fun a U => a = #[(.ref q0)] ∧ Z.Warmed39 U.vm ∧ U.heap = h0) (fun _ _ _ _ _ => True) (fun _ U o U' => ∃ v L, o = .returned v ∧ Q_taken_f Z q0 p0 a_TRUE a_MILLISECONDS a_MILLISECONDS_name a_FALSE h0 n0 v U'.heap L ∧ FrameEnd U o U' L ({ frames := 0, cells := 0, slots := 0, locals := 0 } : Room).cells ({ frames := 0, cells := 0, slots := 0, locals := 0 } : Room).slots) := by
  refine MetFree.of_bodySF (plainFor_of_name pn_com_example_plus1_plus1_Take) hisR ?_
  intro p e s m args below meth c s₁ Bd hml0 hP hK
  obtain ⟨rfl, hZ, hh⟩ := hP
  have hx := Bd.exec
  have hby := Bd.bytes
  have hml : c.maxLocals = 1 := hml0
  have hown : s.vm.findClass "com/example/plus1/plus1/Take" = some m.cls := findClass_of_methodNamed Bd.named
  have hnm := (name_of_methodNamed Bd.named Bd.method).1
  have X0 : Stand p l e ({ frames := 0, cells := 0, slots := 0, locals := 0 } : Room) s m #[(.ref q0)] below meth c s₁ [] 0 0 := Stand.of_body Bd
  have e0 : s₁.heap = h0 := by rw [← hh, Bd.state]; rfl
  have N0 := Fr.nil n0
  refine Classical.byContradiction fun hNG => ?_
  have K0 := Keep.refl h0 []
  have k0 : ∀ t, own_At p e below m s₁ 0 #[.val (.ref q0)] [] t → own_En p e below m s₁ #[(.ref q0)] 1 t := fun t k => castTop (ef_taken_f m q0 ) k
  obtain ⟨S_TRUE, E_TRUE, F_TRUE_value, S_MILLISECONDS, E_MILLISECONDS, F_MILLISECONDS_name, E_MILLISECONDS_name, F_MILLISECONDS_ordinal, F_MILLISECONDS_scale, F_MILLISECONDS_maxNanos, F_MILLISECONDS_microRatio, F_MILLISECONDS_maxMicros, F_MILLISECONDS_milliRatio, F_MILLISECONDS_maxMillis, F_MILLISECONDS_secRatio, F_MILLISECONDS_maxSecs, S_FALSE, E_FALSE, F_FALSE_value⟩ := (id hE : EV Z a_TRUE a_MILLISECONDS a_MILLISECONDS_name a_FALSE)
  obtain ⟨T1, X1, e1, st1⟩ := getF X0 hx hZ hown (host := "") (Or.inl (own_w hw 17 rfl)) Via.refl e0 F0 (g := (mkF m 1 #[.val (.ref q0)] [(.ref q0)])) rfl rfl (hb hby d_prog_5_method_5_code_1)
  have k2 : ∀ t, own_At p e below m T1 14 #[.val (.ref q0)] [(.int (0 : Int32))] t → own_En p e below m s₁ #[(.ref q0)] 1 t := by
    intro t k
    refine k0 t ?_
    refine XS.aloadN X0.here hx rfl (hb hby d_prog_5_method_5_code_0) rfl rfl ?_
    show own_At p e below m s₁ 1 #[.val (.ref q0)] [(.ref q0)] t
    refine st1 _ ?_
    show own_At p e below m T1 4 #[.val (.ref q0)] [(.long p0)] t
    refine XS.lconst X1.here hx rfl (hb hby d_prog_5_method_5_code_4) ?_
    show own_At p e below m T1 5 #[.val (.ref q0)] [(.long (0 : Int64)), (.long p0)] t
    refine XS.lcmp X1.here hx rfl (hb hby d_prog_5_method_5_code_5) rfl ?_
    show own_At p e below m T1 6 #[.val (.ref q0)] [(.int (lcmpW p0 (0 : Int64)))] t
    refine XS.ifYes X1.here hx rfl (pc0 := 6) (pc' := 13) rfl (hb hby d_prog_5_method_5_code_6) rfl ((if0 _ _).trans (flt hgt).2.2.2) (by decide) (by decide) ?_
    show own_At p e below m T1 13 #[.val (.ref q0)] [] t
    refine XS.iconst X1.here hx rfl (hb hby d_prog_5_method_5_code_13) ?_
    show own_At p e below m T1 14 #[.val (.ref q0)] [(.int (0 : Int32))] t
    exact k
  obtain ⟨fs, hr, hrun, hended, hW, hsame⟩ := X1.leave (v := some (.int (0 : Int32))) (fun h => by rw [Bd.returns] at h; cases h)
  refine hNG ⟨_, _, k2 _ ?_, hrun, hended, _, _, rfl, ?_, ⟨_, rfl⟩, hW, hsame.mono (by decide) (by decide)⟩
  · exact retN X1 hx (t := .boolean) Bd.returns (by simp) (hb hby d_prog_5_method_5_code_14) hr
  · show Q_taken_f Z q0 p0 a_TRUE a_MILLISECONDS a_MILLISECONDS_name a_FALSE h0 n0 _ T1.heap _
    rw [e1]
    exact ⟨rfl, N0, rfl⟩
theorem ef_heldB (m : MethodId) (x0 : Addr)  : entryFrame m #[(.ref x0)] 1 = mkF m 0 #[.val (.ref x0)] [] := by first | (simp [entryFrame, mkF, argsToLocals, Value.category]; done) | rfl
theorem d_prog_5_method_7_code_0 : decode prog_5_method_7_code 0 = .ok (.aload_n 0, 1) := by decide +kernel
theorem d_prog_5_method_7_code_1 : decode prog_5_method_7_code 1 = .ok (.getfield 16, 3) := by decide +kernel
theorem d_prog_5_method_7_code_4 : decode prog_5_method_7_code 4 = .ok (.areturn, 1) := by decide +kernel
abbrev own_m5 : MethodName := ⟨"com/example/plus1/plus1/Take", "heldBefore", "()Ljava/lang/Boolean;"⟩
def Q_heldB (Z : State) (q0 : Addr) (r0 : Addr) (a_TRUE : Addr) (a_MILLISECONDS : Addr) (a_MILLISECONDS_name : Addr) (a_FALSE : Addr) (h0 : Heap) (n0 : Nat) (v : Option Value) (h : Heap) (L : List Loc) : Prop := v = some (.ref r0) ∧ Fr n0 L ∧ h = h0
set_option maxRecDepth 65536 in
set_option maxHeartbeats 40000000 in
theorem rm_heldB (l : Launch) (Z : State) (a0 : Array Value) (hw : ∀ d ∈ tables_1, d.before a0 Z = true) (ws : List Jvm.Cond) (q0 : Addr) (r0 : Addr) (a_TRUE : Addr) (a_MILLISECONDS : Addr) (a_MILLISECONDS_name : Addr) (a_FALSE : Addr) (h0 : Heap) (n0 : Nat) (O0 : Old Z n0 h0) (hE : EV Z a_TRUE a_MILLISECONDS a_MILLISECONDS_name a_FALSE) (F0 : Fld Z h0 q0 "com/example/plus1/plus1/Take" "heldBefore" "Ljava/lang/Boolean;" (.ref r0)) :
    MetFree l own_m5 (head1 (Jvm.Cond.code own_m5 prog_5_method_7_code 1 (some (.object "java/lang/Boolean")) :: ws) ({ frames := 0, cells := 0, slots := 0, locals := 0 } : Room)) (fun a U => a = #[(.ref q0)] ∧ Z.Warmed39 U.vm ∧ U.heap = h0) (fun _ _ _ _ _ => True) (fun _ U o U' => ∃ v L, o = .returned v ∧ Q_heldB Z q0 r0 a_TRUE a_MILLISECONDS a_MILLISECONDS_name a_FALSE h0 n0 v U'.heap L ∧ FrameEnd U o U' L ({ frames := 0, cells := 0, slots := 0, locals := 0 } : Room).cells ({ frames := 0, cells := 0, slots := 0, locals := 0 } : Room).slots) := by
  refine MetFree.of_bodySF (plainFor_of_name pn_com_example_plus1_plus1_Take) hisR ?_
  intro p e s m args below meth c s₁ Bd hml0 hP hK
  obtain ⟨rfl, hZ, hh⟩ := hP
  have hx := Bd.exec
  have hby := Bd.bytes
  have hml : c.maxLocals = 1 := hml0
  have hown : s.vm.findClass "com/example/plus1/plus1/Take" = some m.cls := findClass_of_methodNamed Bd.named
  have hnm := (name_of_methodNamed Bd.named Bd.method).1
  have X0 : Stand p l e ({ frames := 0, cells := 0, slots := 0, locals := 0 } : Room) s m #[(.ref q0)] below meth c s₁ [] 0 0 := Stand.of_body Bd
  have e0 : s₁.heap = h0 := by rw [← hh, Bd.state]; rfl
  have N0 := Fr.nil n0
  refine Classical.byContradiction fun hNG => ?_
  have K0 := Keep.refl h0 []
  have k0 : ∀ t, own_At p e below m s₁ 0 #[.val (.ref q0)] [] t → own_En p e below m s₁ #[(.ref q0)] 1 t := fun t k => castTop (ef_heldB m q0 ) k
  obtain ⟨S_TRUE, E_TRUE, F_TRUE_value, S_MILLISECONDS, E_MILLISECONDS, F_MILLISECONDS_name, E_MILLISECONDS_name, F_MILLISECONDS_ordinal, F_MILLISECONDS_scale, F_MILLISECONDS_maxNanos, F_MILLISECONDS_microRatio, F_MILLISECONDS_maxMicros, F_MILLISECONDS_milliRatio, F_MILLISECONDS_maxMillis, F_MILLISECONDS_secRatio, F_MILLISECONDS_maxSecs, S_FALSE, E_FALSE, F_FALSE_value⟩ := (id hE : EV Z a_TRUE a_MILLISECONDS a_MILLISECONDS_name a_FALSE)
  obtain ⟨T1, X1, e1, st1⟩ := getF X0 hx hZ hown (host := "") (Or.inl (own_w hw 21 rfl)) Via.refl e0 F0 (g := (mkF m 1 #[.val (.ref q0)] [(.ref q0)])) rfl rfl (hb hby d_prog_5_method_7_code_1)
  have k2 : ∀ t, own_At p e below m T1 4 #[.val (.ref q0)] [(.ref r0)] t → own_En p e below m s₁ #[(.ref q0)] 1 t := by
    intro t k
    refine k0 t ?_
    refine XS.aloadN X0.here hx rfl (hb hby d_prog_5_method_7_code_0) rfl rfl ?_
    show own_At p e below m s₁ 1 #[.val (.ref q0)] [(.ref q0)] t
    refine st1 _ ?_
    show own_At p e below m T1 4 #[.val (.ref q0)] [(.ref r0)] t
    exact k
  obtain ⟨fs, hr, hrun, hended, hW, hsame⟩ := X1.leave (v := some (.ref r0)) (fun h => by rw [Bd.returns] at h; cases h)
  refine hNG ⟨_, _, k2 _ ?_, hrun, hended, _, _, rfl, ?_, ⟨_, rfl⟩, hW, hsame.mono (by decide) (by decide)⟩
  · exact retOut X1 hx (t := (.object "java/lang/Boolean")) Bd.returns rfl (Or.inr (Or.inr (Or.inr (Or.inr ⟨rfl, rfl, rfl⟩)))) (hb hby d_prog_5_method_7_code_4) hr
  · show Q_heldB Z q0 r0 a_TRUE a_MILLISECONDS a_MILLISECONDS_name a_FALSE h0 n0 _ T1.heap _
    rw [e1]
    exact ⟨rfl, N0, rfl⟩
theorem own_j1 : (1 : Int64).toInt = 1 := by decide
theorem own_jm : (9223372036854 : Int64).toInt = 9223372036854 := by decide
theorem own_jn : (-9223372036854 : Int64).toInt = -9223372036854 := by decide
theorem own_jM : (9223372036854775807 : Int64).toInt = 9223372036854775807 := by decide
theorem own_j0 : (0 : Int64).toInt = 0 := by decide
theorem own_low {p : Int64} (h1 : ¬ ((lcmpW p (9223372036854775807 : Int64)) = (0 : Int32))) (h2 : ¬ ((lcmpW p (0 : Int64)) < (0 : Int32))) : ¬ ((lcmpW (p + (1 : Int64)) (-9223372036854 : Int64)) < (0 : Int32)) := by
  rw [lw_eq] at h1
  rw [lw_lt, Int64.lt_iff_toInt_lt, own_j0] at h2
  rw [lw_lt, Int64.lt_iff_toInt_lt, own_jn]
  have a1 := c_ladd p 1
  have a2 := rng64 p
  have a3 := rng64 (p + 1)
  have a4 : ¬ p.toInt = 9223372036854775807 := fun q => h1 (Int64.toInt_inj.mp (q.trans own_jM.symm))
  rw [own_j1] at a1
  omega
theorem ef_tn_t (m : MethodId) (x0 : Addr) (x1 : Int64)  : entryFrame m #[(.ref x0), (.long x1)] 7 = mkF m 0 #[.val (.ref x0), .val (.long x1), .second, .unset, .unset, .unset, .unset] [] := by first | (simp [entryFrame, mkF, argsToLocals, Value.category]; done) | rfl
theorem d_jdk_2799_method_7_code_0 : decode jdk_2799_method_7_code 0 = .ok (.aload_n 0, 1) := by decide +kernel
theorem d_jdk_2799_method_7_code_1 : decode jdk_2799_method_7_code 1 = .ok (.getfield 44, 3) := by decide +kernel
theorem d_jdk_2799_method_7_code_4 : decode jdk_2799_method_7_code 4 = .ok (.dup2, 1) := by decide +kernel
theorem d_jdk_2799_method_7_code_5 : decode jdk_2799_method_7_code 5 = .ok (.lstore_n 3, 1) := by decide +kernel
theorem d_jdk_2799_method_7_code_6 : decode jdk_2799_method_7_code 6 = .ok (.lconst 1, 1) := by decide +kernel
theorem d_jdk_2799_method_7_code_7 : decode jdk_2799_method_7_code 7 = .ok (.lcmp, 1) := by decide +kernel
theorem d_jdk_2799_method_7_code_8 : decode jdk_2799_method_7_code 8 = .ok (.ifCond .ne 5, 3) := by decide +kernel
theorem d_jdk_2799_method_7_code_13 : decode jdk_2799_method_7_code 13 = .ok (.lload_n 1, 1) := by decide +kernel
theorem d_jdk_2799_method_7_code_14 : decode jdk_2799_method_7_code 14 = .ok (.aload_n 0, 1) := by decide +kernel
theorem d_jdk_2799_method_7_code_15 : decode jdk_2799_method_7_code 15 = .ok (.getfield 52, 3) := by decide +kernel
theorem d_jdk_2799_method_7_code_18 : decode jdk_2799_method_7_code 18 = .ok (.dup2, 1) := by decide +kernel
theorem d_jdk_2799_method_7_code_19 : decode jdk_2799_method_7_code 19 = .ok (.lstore 5, 2) := by decide +kernel
theorem d_jdk_2799_method_7_code_21 : decode jdk_2799_method_7_code 21 = .ok (.lcmp, 1) := by decide +kernel
theorem d_jdk_2799_method_7_code_22 : decode jdk_2799_method_7_code 22 = .ok (.ifCond .le 7, 3) := by decide +kernel
theorem d_jdk_2799_method_7_code_25 : decode jdk_2799_method_7_code 25 = .ok (.ldc2_w 50, 3) := by decide +kernel
theorem d_jdk_2799_method_7_code_28 : decode jdk_2799_method_7_code 28 = .ok (.lreturn, 1) := by decide +kernel
theorem pn_java_util_concurrent_TimeUnit : plainName "java/util/concurrent/TimeUnit" = true := by first | (simp [plainName, overriddenIn]; done) | decide +kernel
abbrev own_m6 : MethodName := ⟨"java/util/concurrent/TimeUnit", "toNanos", "(J)J"⟩
def Q_tn_t (Z : State) (p1 : Int64) (a_TRUE : Addr) (a_MILLISECONDS : Addr) (a_MILLISECONDS_name : Addr) (a_FALSE : Addr) (h0 : Heap) (n0 : Nat) (v : Option Value) (h : Heap) (L : List Loc) : Prop := v = some (.long (9223372036854775807 : Int64)) ∧ Fr n0 L ∧ h = h0
set_option maxRecDepth 65536 in
set_option maxHeartbeats 40000000 in
theorem rm_tn_t (l : Launch) (Z : State) (a0 : Array Value) (hw : ∀ d ∈ tables_1, d.before a0 Z = true) (ws : List Jvm.Cond) (p1 : Int64) (a_TRUE : Addr) (a_MILLISECONDS : Addr) (a_MILLISECONDS_name : Addr) (a_FALSE : Addr) (h0 : Heap) (n0 : Nat) (O0 : Old Z n0 h0) (hE : EV Z a_TRUE a_MILLISECONDS a_MILLISECONDS_name a_FALSE) (hgt : (0 : Int32) < (lcmpW (p1 + (1 : Int64)) (9223372036854 : Int64))) (hl : ¬ ((lcmpW (p1 + (1 : Int64)) (-9223372036854 : Int64)) < (0 : Int32))) :
    MetFree l own_m6 (head1 (Jvm.Cond.code own_m6 jdk_2799_method_7_code 7 (some .long) :: ws) ({ frames := 0, cells := 0, slots := 0, locals := 0 } : Room)) (fun a U => a = #[(.ref a_MILLISECONDS), (.long (p1 + (1 : Int64)))] ∧ Z.Warmed39 U.vm ∧ U.heap = h0) (fun _ _ _ _ _ => True) (fun _ U o U' => ∃ v L, o = .returned v ∧ Q_tn_t Z p1 a_TRUE a_MILLISECONDS a_MILLISECONDS_name a_FALSE h0 n0 v U'.heap L ∧ FrameEnd U o U' L ({ frames := 0, cells := 0, slots := 0, locals := 0 } : Room).cells ({ frames := 0, cells := 0, slots := 0, locals := 0 } : Room).slots) := by
  refine MetFree.of_bodySF (plainFor_of_name pn_java_util_concurrent_TimeUnit) hisR ?_
  intro p e s m args below meth c s₁ Bd hml0 hP hK
  obtain ⟨rfl, hZ, hh⟩ := hP
  have hx := Bd.exec
  have hby := Bd.bytes
  have hml : c.maxLocals = 7 := hml0
  have hown : s.vm.findClass "java/util/concurrent/TimeUnit" = some m.cls := findClass_of_methodNamed Bd.named
  have hnm := (name_of_methodNamed Bd.named Bd.method).1
  have X0 : Stand p l e ({ frames := 0, cells := 0, slots := 0, locals := 0 } : Room) s m #[(.ref a_MILLISECONDS), (.long (p1 + (1 : Int64)))] below meth c s₁ [] 0 0 := Stand.of_body Bd
  have e0 : s₁.heap = h0 := by rw [← hh, Bd.state]; rfl
  have N0 := Fr.nil n0
  refine Classical.byContradiction fun hNG => ?_
  have K0 := Keep.refl h0 []
  have k0 : ∀ t, own_At p e below m s₁ 0 #[.val (.ref a_MILLISECONDS), .val (.long (p1 + (1 : Int64))), .second, .unset, .unset, .unset, .unset] [] t → own_En p e below m s₁ #[(.ref a_MILLISECONDS), (.long (p1 + (1 : Int64)))] 7 t := fun t k => castTop (ef_tn_t m a_MILLISECONDS ((p1 + (1 : Int64))) ) k
  obtain ⟨S_TRUE, E_TRUE, F_TRUE_value, S_MILLISECONDS, E_MILLISECONDS, F_MILLISECONDS_name, E_MILLISECONDS_name, F_MILLISECONDS_ordinal, F_MILLISECONDS_scale, F_MILLISECONDS_maxNanos, F_MILLISECONDS_microRatio, F_MILLISECONDS_maxMicros, F_MILLISECONDS_milliRatio, F_MILLISECONDS_maxMillis, F_MILLISECONDS_secRatio, F_MILLISECONDS_maxSecs, S_FALSE, E_FALSE, F_FALSE_value⟩ := (id hE : EV Z a_TRUE a_MILLISECONDS a_MILLISECONDS_name a_FALSE)
  obtain ⟨T1, X1, e1, st1⟩ := getF X0 hx hZ hown (host := "") (Or.inl (own_w hw 58 rfl)) Via.refl e0 (F_MILLISECONDS_scale.ext O0.2) (g := (mkF m 1 #[.val (.ref a_MILLISECONDS), .val (.long (p1 + (1 : Int64))), .second, .unset, .unset, .unset, .unset] [(.ref a_MILLISECONDS)])) rfl rfl (hb hby d_jdk_2799_method_7_code_1)
  obtain ⟨T2, X2, e2, st2⟩ := getF X1 hx hZ hown (host := "") (Or.inl (own_w hw 60 rfl)) Via.refl e1 (F_MILLISECONDS_maxNanos.ext O0.2) (g := (mkF m 15 #[.val (.ref a_MILLISECONDS), .val (.long (p1 + (1 : Int64))), .second, .val (.long (1000000 : Int64)), .second, .unset, .unset] [(.ref a_MILLISECONDS), (.long (p1 + (1 : Int64)))])) rfl rfl (hb hby d_jdk_2799_method_7_code_15)
  have k3 : ∀ t, own_At p e below m T2 28 #[.val (.ref a_MILLISECONDS), .val (.long (p1 + (1 : Int64))), .second, .val (.long (1000000 : Int64)), .second, .val (.long (9223372036854 : Int64)), .second] [(.long (9223372036854775807 : Int64))] t → own_En p e below m s₁ #[(.ref a_MILLISECONDS), (.long (p1 + (1 : Int64)))] 7 t := by
    intro t k
    refine k0 t ?_
    refine XS.aloadN X0.here hx rfl (hb hby d_jdk_2799_method_7_code_0) rfl rfl ?_
    show own_At p e below m s₁ 1 #[.val (.ref a_MILLISECONDS), .val (.long (p1 + (1 : Int64))), .second, .unset, .unset, .unset, .unset] [(.ref a_MILLISECONDS)] t
    refine st1 _ ?_
    show own_At p e below m T1 4 #[.val (.ref a_MILLISECONDS), .val (.long (p1 + (1 : Int64))), .second, .unset, .unset, .unset, .unset] [(.long (1000000 : Int64))] t
    refine own_dup2L X1.here hx rfl (hb hby d_jdk_2799_method_7_code_4) rfl ?_
    show own_At p e below m T1 5 #[.val (.ref a_MILLISECONDS), .val (.long (p1 + (1 : Int64))), .second, .unset, .unset, .unset, .unset] [(.long (1000000 : Int64)), (.long (1000000 : Int64))] t
    refine XS.lstoreN X1.here hx rfl (hb hby d_jdk_2799_method_7_code_5) rfl (l' := #[.val (.ref a_MILLISECONDS), .val (.long (p1 + (1 : Int64))), .second, .val (.long (1000000 : Int64)), .second, .unset, .unset]) rfl ?_
    show own_At p e below m T1 6 #[.val (.ref a_MILLISECONDS), .val (.long (p1 + (1 : Int64))), .second, .val (.long (1000000 : Int64)), .second, .unset, .unset] [(.long (1000000 : Int64))] t
    refine XS.lconst X1.here hx rfl (hb hby d_jdk_2799_method_7_code_6) ?_
    show own_At p e below m T1 7 #[.val (.ref a_MILLISECONDS), .val (.long (p1 + (1 : Int64))), .second, .val (.long (1000000 : Int64)), .second, .unset, .unset] [(.long (1 : Int64)), (.long (1000000 : Int64))] t
    refine XS.lcmp X1.here hx rfl (hb hby d_jdk_2799_method_7_code_7) rfl ?_
    show own_At p e below m T1 8 #[.val (.ref a_MILLISECONDS), .val (.long (p1 + (1 : Int64))), .second, .val (.long (1000000 : Int64)), .second, .unset, .unset] [(.int (lcmpW (1000000 : Int64) (1 : Int64)))] t
    rw [show (lcmpW (1000000 : Int64) (1 : Int64)) = (1 : Int32) from by decide]
    show own_At p e below m T1 8 #[.val (.ref a_MILLISECONDS), .val (.long (p1 + (1 : Int64))), .second, .val (.long (1000000 : Int64)), .second, .unset, .unset] [(.int (1 : Int32))] t
    refine XS.ifYes X1.here hx rfl (pc0 := 8) (pc' := 13) rfl (hb hby d_jdk_2799_method_7_code_8) rfl ((if0 _ _).trans (feq (by decide : ¬ ((1 : Int32) = (0 : Int32)))).2) (by decide) (by decide) ?_
    show own_At p e below m T1 13 #[.val (.ref a_MILLISECONDS), .val (.long (p1 + (1 : Int64))), .second, .val (.long (1000000 : Int64)), .second, .unset, .unset] [] t
    refine XS.lloadN X1.here hx rfl (hb hby d_jdk_2799_method_7_code_13) rfl ?_
    show own_At p e below m T1 14 #[.val (.ref a_MILLISECONDS), .val (.long (p1 + (1 : Int64))), .second, .val (.long (1000000 : Int64)), .second, .unset, .unset] [(.long (p1 + (1 : Int64)))] t
    refine XS.aloadN X1.here hx rfl (hb hby d_jdk_2799_method_7_code_14) rfl rfl ?_
    show own_At p e below m T1 15 #[.val (.ref a_MILLISECONDS), .val (.long (p1 + (1 : Int64))), .second, .val (.long (1000000 : Int64)), .second, .unset, .unset] [(.ref a_MILLISECONDS), (.long (p1 + (1 : Int64)))] t
    refine st2 _ ?_
    show own_At p e below m T2 18 #[.val (.ref a_MILLISECONDS), .val (.long (p1 + (1 : Int64))), .second, .val (.long (1000000 : Int64)), .second, .unset, .unset] [(.long (9223372036854 : Int64)), (.long (p1 + (1 : Int64)))] t
    refine own_dup2L X2.here hx rfl (hb hby d_jdk_2799_method_7_code_18) rfl ?_
    show own_At p e below m T2 19 #[.val (.ref a_MILLISECONDS), .val (.long (p1 + (1 : Int64))), .second, .val (.long (1000000 : Int64)), .second, .unset, .unset] [(.long (9223372036854 : Int64)), (.long (9223372036854 : Int64)), (.long (p1 + (1 : Int64)))] t
    refine XS.lstore X2.here hx rfl (hb hby d_jdk_2799_method_7_code_19) rfl (l' := #[.val (.ref a_MILLISECONDS), .val (.long (p1 + (1 : Int64))), .second, .val (.long (1000000 : Int64)), .second, .val (.long (9223372036854 : Int64)), .second]) rfl ?_
    show own_At p e below m T2 21 #[.val (.ref a_MILLISECONDS), .val (.long (p1 + (1 : Int64))), .second, .val (.long (1000000 : Int64)), .second, .val (.long (9223372036854 : Int64)), .second] [(.long (9223372036854 : Int64)), (.long (p1 + (1 : Int64)))] t
    refine XS.lcmp X2.here hx rfl (hb hby d_jdk_2799_method_7_code_21) rfl ?_
    show own_At p e below m T2 22 #[.val (.ref a_MILLISECONDS), .val (.long (p1 + (1 : Int64))), .second, .val (.long (1000000 : Int64)), .second, .val (.long (9223372036854 : Int64)), .second] [(.int (lcmpW (p1 + (1 : Int64)) (9223372036854 : Int64)))] t
    refine XS.ifNo X2.here hx rfl (hb hby d_jdk_2799_method_7_code_22) rfl ((if0 _ _).trans (tlt hgt).2.2.2) ?_
    show own_At p e below m T2 25 #[.val (.ref a_MILLISECONDS), .val (.long (p1 + (1 : Int64))), .second, .val (.long (1000000 : Int64)), .second, .val (.long (9223372036854 : Int64)), .second] [] t
    refine X2.ldc2J hx hown (mvT hZ (own_w hw 69 rfl)) rfl (hb hby d_jdk_2799_method_7_code_25) ?_
    show own_At p e below m T2 28 #[.val (.ref a_MILLISECONDS), .val (.long (p1 + (1 : Int64))), .second, .val (.long (1000000 : Int64)), .second, .val (.long (9223372036854 : Int64)), .second] [(.long (9223372036854775807 : Int64))] t
    exact k
  obtain ⟨fs, hr, hrun, hended, hW, hsame⟩ := X2.leave (v := some (.long (9223372036854775807 : Int64))) (fun h => by rw [Bd.returns] at h; cases h)
  refine hNG ⟨_, _, k3 _ ?_, hrun, hended, _, _, rfl, ?_, ⟨_, rfl⟩, hW, hsame.mono (by decide) (by decide)⟩
  · exact retOut X2 hx (t := .long) Bd.returns rfl (Or.inr (Or.inl ⟨rfl, rfl, _, rfl⟩)) (hb hby d_jdk_2799_method_7_code_28) hr
  · show Q_tn_t Z p1 a_TRUE a_MILLISECONDS a_MILLISECONDS_name a_FALSE h0 n0 _ T2.heap _
    rw [e2]
    exact ⟨rfl, N0, rfl⟩
theorem ef_tn_f (m : MethodId) (x0 : Addr) (x1 : Int64)  : entryFrame m #[(.ref x0), (.long x1)] 7 = mkF m 0 #[.val (.ref x0), .val (.long x1), .second, .unset, .unset, .unset, .unset] [] := by first | (simp [entryFrame, mkF, argsToLocals, Value.category]; done) | rfl
theorem d_jdk_2799_method_7_code_29 : decode jdk_2799_method_7_code 29 = .ok (.lload_n 1, 1) := by decide +kernel
theorem d_jdk_2799_method_7_code_30 : decode jdk_2799_method_7_code 30 = .ok (.lload 5, 2) := by decide +kernel
theorem d_jdk_2799_method_7_code_32 : decode jdk_2799_method_7_code 32 = .ok (.lneg, 1) := by decide +kernel
theorem d_jdk_2799_method_7_code_33 : decode jdk_2799_method_7_code 33 = .ok (.lcmp, 1) := by decide +kernel
theorem d_jdk_2799_method_7_code_34 : decode jdk_2799_method_7_code 34 = .ok (.ifCond .ge 7, 3) := by decide +kernel
theorem d_jdk_2799_method_7_code_41 : decode jdk_2799_method_7_code 41 = .ok (.lload_n 1, 1) := by decide +kernel
theorem d_jdk_2799_method_7_code_42 : decode jdk_2799_method_7_code 42 = .ok (.lload_n 3, 1) := by decide +kernel
theorem d_jdk_2799_method_7_code_43 : decode jdk_2799_method_7_code 43 = .ok (.lmul, 1) := by decide +kernel
theorem d_jdk_2799_method_7_code_44 : decode jdk_2799_method_7_code 44 = .ok (.lreturn, 1) := by decide +kernel
def Q_tn_f (Z : State) (p1 : Int64) (a_TRUE : Addr) (a_MILLISECONDS : Addr) (a_MILLISECONDS_name : Addr) (a_FALSE : Addr) (h0 : Heap) (n0 : Nat) (v : Option Value) (h : Heap) (L : List Loc) : Prop := v = some (.long ((p1 + (1 : Int64)) * (1000000 : Int64))) ∧ Fr n0 L ∧ h = h0
set_option maxRecDepth 65536 in
set_option maxHeartbeats 40000000 in
theorem rm_tn_f (l : Launch) (Z : State) (a0 : Array Value) (hw : ∀ d ∈ tables_1, d.before a0 Z = true) (ws : List Jvm.Cond) (p1 : Int64) (a_TRUE : Addr) (a_MILLISECONDS : Addr) (a_MILLISECONDS_name : Addr) (a_FALSE : Addr) (h0 : Heap) (n0 : Nat) (O0 : Old Z n0 h0) (hE : EV Z a_TRUE a_MILLISECONDS a_MILLISECONDS_name a_FALSE) (hgt : ¬ ((0 : Int32) < (lcmpW (p1 + (1 : Int64)) (9223372036854 : Int64)))) (hl : ¬ ((lcmpW (p1 + (1 : Int64)) (-9223372036854 : Int64)) < (0 : Int32))) :
    MetFree l own_m6 (head1 (Jvm.Cond.code own_m6 jdk_2799_method_7_code 7 (some .long) :: ws) ({ frames := 0, cells := 0, slots := 0, locals := 0 } : Room)) (fun a U => a = #[(.ref a_MILLISECONDS), (.long (p1 + (1 : Int64)))] ∧ Z.Warmed39 U.vm ∧ U.heap = h0) (fun _ _ _ _ _ => True) (fun _ U o U' => ∃ v L, o = .returned v ∧ Q_tn_f Z p1 a_TRUE a_MILLISECONDS a_MILLISECONDS_name a_FALSE h0 n0 v U'.heap L ∧ FrameEnd U o U' L ({ frames := 0, cells := 0, slots := 0, locals := 0 } : Room).cells ({ frames := 0, cells := 0, slots := 0, locals := 0 } : Room).slots) := by
  refine MetFree.of_bodySF (plainFor_of_name pn_java_util_concurrent_TimeUnit) hisR ?_
  intro p e s m args below meth c s₁ Bd hml0 hP hK
  obtain ⟨rfl, hZ, hh⟩ := hP
  have hx := Bd.exec
  have hby := Bd.bytes
  have hml : c.maxLocals = 7 := hml0
  have hown : s.vm.findClass "java/util/concurrent/TimeUnit" = some m.cls := findClass_of_methodNamed Bd.named
  have hnm := (name_of_methodNamed Bd.named Bd.method).1
  have X0 : Stand p l e ({ frames := 0, cells := 0, slots := 0, locals := 0 } : Room) s m #[(.ref a_MILLISECONDS), (.long (p1 + (1 : Int64)))] below meth c s₁ [] 0 0 := Stand.of_body Bd
  have e0 : s₁.heap = h0 := by rw [← hh, Bd.state]; rfl
  have N0 := Fr.nil n0
  refine Classical.byContradiction fun hNG => ?_
  have K0 := Keep.refl h0 []
  have k0 : ∀ t, own_At p e below m s₁ 0 #[.val (.ref a_MILLISECONDS), .val (.long (p1 + (1 : Int64))), .second, .unset, .unset, .unset, .unset] [] t → own_En p e below m s₁ #[(.ref a_MILLISECONDS), (.long (p1 + (1 : Int64)))] 7 t := fun t k => castTop (ef_tn_f m a_MILLISECONDS ((p1 + (1 : Int64))) ) k
  obtain ⟨S_TRUE, E_TRUE, F_TRUE_value, S_MILLISECONDS, E_MILLISECONDS, F_MILLISECONDS_name, E_MILLISECONDS_name, F_MILLISECONDS_ordinal, F_MILLISECONDS_scale, F_MILLISECONDS_maxNanos, F_MILLISECONDS_microRatio, F_MILLISECONDS_maxMicros, F_MILLISECONDS_milliRatio, F_MILLISECONDS_maxMillis, F_MILLISECONDS_secRatio, F_MILLISECONDS_maxSecs, S_FALSE, E_FALSE, F_FALSE_value⟩ := (id hE : EV Z a_TRUE a_MILLISECONDS a_MILLISECONDS_name a_FALSE)
  obtain ⟨T1, X1, e1, st1⟩ := getF X0 hx hZ hown (host := "") (Or.inl (own_w hw 58 rfl)) Via.refl e0 (F_MILLISECONDS_scale.ext O0.2) (g := (mkF m 1 #[.val (.ref a_MILLISECONDS), .val (.long (p1 + (1 : Int64))), .second, .unset, .unset, .unset, .unset] [(.ref a_MILLISECONDS)])) rfl rfl (hb hby d_jdk_2799_method_7_code_1)
  obtain ⟨T2, X2, e2, st2⟩ := getF X1 hx hZ hown (host := "") (Or.inl (own_w hw 60 rfl)) Via.refl e1 (F_MILLISECONDS_maxNanos.ext O0.2) (g := (mkF m 15 #[.val (.ref a_MILLISECONDS), .val (.long (p1 + (1 : Int64))), .second, .val (.long (1000000 : Int64)), .second, .unset, .unset] [(.ref a_MILLISECONDS), (.long (p1 + (1 : Int64)))])) rfl rfl (hb hby d_jdk_2799_method_7_code_15)
  have k3 : ∀ t, own_At p e below m T2 44 #[.val (.ref a_MILLISECONDS), .val (.long (p1 + (1 : Int64))), .second, .val (.long (1000000 : Int64)), .second, .val (.long (9223372036854 : Int64)), .second] [(.long ((p1 + (1 : Int64)) * (1000000 : Int64)))] t → own_En p e below m s₁ #[(.ref a_MILLISECONDS), (.long (p1 + (1 : Int64)))] 7 t := by
    intro t k
    refine k0 t ?_
    refine XS.aloadN X0.here hx rfl (hb hby d_jdk_2799_method_7_code_0) rfl rfl ?_
    show own_At p e below m s₁ 1 #[.val (.ref a_MILLISECONDS), .val (.long (p1 + (1 : Int64))), .second, .unset, .unset, .unset, .unset] [(.ref a_MILLISECONDS)] t
    refine st1 _ ?_
    show own_At p e below m T1 4 #[.val (.ref a_MILLISECONDS), .val (.long (p1 + (1 : Int64))), .second, .unset, .unset, .unset, .unset] [(.long (1000000 : Int64))] t
    refine own_dup2L X1.here hx rfl (hb hby d_jdk_2799_method_7_code_4) rfl ?_
    show own_At p e below m T1 5 #[.val (.ref a_MILLISECONDS), .val (.long (p1 + (1 : Int64))), .second, .unset, .unset, .unset, .unset] [(.long (1000000 : Int64)), (.long (1000000 : Int64))] t
    refine XS.lstoreN X1.here hx rfl (hb hby d_jdk_2799_method_7_code_5) rfl (l' := #[.val (.ref a_MILLISECONDS), .val (.long (p1 + (1 : Int64))), .second, .val (.long (1000000 : Int64)), .second, .unset, .unset]) rfl ?_
    show own_At p e below m T1 6 #[.val (.ref a_MILLISECONDS), .val (.long (p1 + (1 : Int64))), .second, .val (.long (1000000 : Int64)), .second, .unset, .unset] [(.long (1000000 : Int64))] t
    refine XS.lconst X1.here hx rfl (hb hby d_jdk_2799_method_7_code_6) ?_
    show own_At p e below m T1 7 #[.val (.ref a_MILLISECONDS), .val (.long (p1 + (1 : Int64))), .second, .val (.long (1000000 : Int64)), .second, .unset, .unset] [(.long (1 : Int64)), (.long (1000000 : Int64))] t
    refine XS.lcmp X1.here hx rfl (hb hby d_jdk_2799_method_7_code_7) rfl ?_
    show own_At p e below m T1 8 #[.val (.ref a_MILLISECONDS), .val (.long (p1 + (1 : Int64))), .second, .val (.long (1000000 : Int64)), .second, .unset, .unset] [(.int (lcmpW (1000000 : Int64) (1 : Int64)))] t
    rw [show (lcmpW (1000000 : Int64) (1 : Int64)) = (1 : Int32) from by decide]
    show own_At p e below m T1 8 #[.val (.ref a_MILLISECONDS), .val (.long (p1 + (1 : Int64))), .second, .val (.long (1000000 : Int64)), .second, .unset, .unset] [(.int (1 : Int32))] t
    refine XS.ifYes X1.here hx rfl (pc0 := 8) (pc' := 13) rfl (hb hby d_jdk_2799_method_7_code_8) rfl ((if0 _ _).trans (feq (by decide : ¬ ((1 : Int32) = (0 : Int32)))).2) (by decide) (by decide) ?_
    show own_At p e below m T1 13 #[.val (.ref a_MILLISECONDS), .val (.long (p1 + (1 : Int64))), .second, .val (.long (1000000 : Int64)), .second, .unset, .unset] [] t
    refine XS.lloadN X1.here hx rfl (hb hby d_jdk_2799_method_7_code_13) rfl ?_
    show own_At p e below m T1 14 #[.val (.ref a_MILLISECONDS), .val (.long (p1 + (1 : Int64))), .second, .val (.long (1000000 : Int64)), .second, .unset, .unset] [(.long (p1 + (1 : Int64)))] t
    refine XS.aloadN X1.here hx rfl (hb hby d_jdk_2799_method_7_code_14) rfl rfl ?_
    show own_At p e below m T1 15 #[.val (.ref a_MILLISECONDS), .val (.long (p1 + (1 : Int64))), .second, .val (.long (1000000 : Int64)), .second, .unset, .unset] [(.ref a_MILLISECONDS), (.long (p1 + (1 : Int64)))] t
    refine st2 _ ?_
    show own_At p e below m T2 18 #[.val (.ref a_MILLISECONDS), .val (.long (p1 + (1 : Int64))), .second, .val (.long (1000000 : Int64)), .second, .unset, .unset] [(.long (9223372036854 : Int64)), (.long (p1 + (1 : Int64)))] t
    refine own_dup2L X2.here hx rfl (hb hby d_jdk_2799_method_7_code_18) rfl ?_
    show own_At p e below m T2 19 #[.val (.ref a_MILLISECONDS), .val (.long (p1 + (1 : Int64))), .second, .val (.long (1000000 : Int64)), .second, .unset, .unset] [(.long (9223372036854 : Int64)), (.long (9223372036854 : Int64)), (.long (p1 + (1 : Int64)))] t
    refine XS.lstore X2.here hx rfl (hb hby d_jdk_2799_method_7_code_19) rfl (l' := #[.val (.ref a_MILLISECONDS), .val (.long (p1 + (1 : Int64))), .second, .val (.long (1000000 : Int64)), .second, .val (.long (9223372036854 : Int64)), .second]) rfl ?_
    show own_At p e below m T2 21 #[.val (.ref a_MILLISECONDS), .val (.long (p1 + (1 : Int64))), .second, .val (.long (1000000 : Int64)), .second, .val (.long (9223372036854 : Int64)), .second] [(.long (9223372036854 : Int64)), (.long (p1 + (1 : Int64)))] t
    refine XS.lcmp X2.here hx rfl (hb hby d_jdk_2799_method_7_code_21) rfl ?_
    show own_At p e below m T2 22 #[.val (.ref a_MILLISECONDS), .val (.long (p1 + (1 : Int64))), .second, .val (.long (1000000 : Int64)), .second, .val (.long (9223372036854 : Int64)), .second] [(.int (lcmpW (p1 + (1 : Int64)) (9223372036854 : Int64)))] t
    refine XS.ifYes X2.here hx rfl (pc0 := 22) (pc' := 29) rfl (hb hby d_jdk_2799_method_7_code_22) rfl ((if0 _ _).trans (flt hgt).2.2.2) (by decide) (by decide) ?_
    show own_At p e below m T2 29 #[.val (.ref a_MILLISECONDS), .val (.long (p1 + (1 : Int64))), .second, .val (.long (1000000 : Int64)), .second, .val (.long (9223372036854 : Int64)), .second] [] t
    refine XS.lloadN X2.here hx rfl (hb hby d_jdk_2799_method_7_code_29) rfl ?_
    show own_At p e below m T2 30 #[.val (.ref a_MILLISECONDS), .val (.long (p1 + (1 : Int64))), .second, .val (.long (1000000 : Int64)), .second, .val (.long (9223372036854 : Int64)), .second] [(.long (p1 + (1 : Int64)))] t
    refine XS.lload X2.here hx rfl (hb hby d_jdk_2799_method_7_code_30) rfl ?_
    show own_At p e below m T2 32 #[.val (.ref a_MILLISECONDS), .val (.long (p1 + (1 : Int64))), .second, .val (.long (1000000 : Int64)), .second, .val (.long (9223372036854 : Int64)), .second] [(.long (9223372036854 : Int64)), (.long (p1 + (1 : Int64)))] t
    refine XS.lneg X2.here hx rfl (hb hby d_jdk_2799_method_7_code_32) rfl ?_
    show own_At p e below m T2 33 #[.val (.ref a_MILLISECONDS), .val (.long (p1 + (1 : Int64))), .second, .val (.long (1000000 : Int64)), .second, .val (.long (9223372036854 : Int64)), .second] [(.long (-(9223372036854 : Int64))), (.long (p1 + (1 : Int64)))] t
    rw [show (-(9223372036854 : Int64)) = (-9223372036854 : Int64) from by decide]
    show own_At p e below m T2 33 #[.val (.ref a_MILLISECONDS), .val (.long (p1 + (1 : Int64))), .second, .val (.long (1000000 : Int64)), .second, .val (.long (9223372036854 : Int64)), .second] [(.long (-9223372036854 : Int64)), (.long (p1 + (1 : Int64)))] t
    refine XS.lcmp X2.here hx rfl (hb hby d_jdk_2799_method_7_code_33) rfl ?_
    show own_At p e below m T2 34 #[.val (.ref a_MILLISECONDS), .val (.long (p1 + (1 : Int64))), .second, .val (.long (1000000 : Int64)), .second, .val (.long (9223372036854 : Int64)), .second] [(.int (lcmpW (p1 + (1 : Int64)) (-9223372036854 : Int64)))] t
    refine XS.ifYes X2.here hx rfl (pc0 := 34) (pc' := 41) rfl (hb hby d_jdk_2799_method_7_code_34) rfl ((if0 _ _).trans (flt hl).2.1) (by decide) (by decide) ?_
    show own_At p e below m T2 41 #[.val (.ref a_MILLISECONDS), .val (.long (p1 + (1 : Int64))), .second, .val (.long (1000000 : Int64)), .second, .val (.long (9223372036854 : Int64)), .second] [] t
    refine XS.lloadN X2.here hx rfl (hb hby d_jdk_2799_method_7_code_41) rfl ?_
    show own_At p e below m T2 42 #[.val (.ref a_MILLISECONDS), .val (.long (p1 + (1 : Int64))), .second, .val (.long (1000000 : Int64)), .second, .val (.long (9223372036854 : Int64)), .second] [(.long (p1 + (1 : Int64)))] t
    refine XS.lloadN X2.here hx rfl (hb hby d_jdk_2799_method_7_code_42) rfl ?_
    show own_At p e below m T2 43 #[.val (.ref a_MILLISECONDS), .val (.long (p1 + (1 : Int64))), .second, .val (.long (1000000 : Int64)), .second, .val (.long (9223372036854 : Int64)), .second] [(.long (1000000 : Int64)), (.long (p1 + (1 : Int64)))] t
    refine XS.lmul X2.here hx rfl (hb hby d_jdk_2799_method_7_code_43) rfl ?_
    show own_At p e below m T2 44 #[.val (.ref a_MILLISECONDS), .val (.long (p1 + (1 : Int64))), .second, .val (.long (1000000 : Int64)), .second, .val (.long (9223372036854 : Int64)), .second] [(.long ((p1 + (1 : Int64)) * (1000000 : Int64)))] t
    exact k
  obtain ⟨fs, hr, hrun, hended, hW, hsame⟩ := X2.leave (v := some (.long ((p1 + (1 : Int64)) * (1000000 : Int64)))) (fun h => by rw [Bd.returns] at h; cases h)
  refine hNG ⟨_, _, k3 _ ?_, hrun, hended, _, _, rfl, ?_, ⟨_, rfl⟩, hW, hsame.mono (by decide) (by decide)⟩
  · exact retOut X2 hx (t := .long) Bd.returns rfl (Or.inr (Or.inl ⟨rfl, rfl, _, rfl⟩)) (hb hby d_jdk_2799_method_7_code_44) hr
  · show Q_tn_f Z p1 a_TRUE a_MILLISECONDS a_MILLISECONDS_name a_FALSE h0 n0 _ T2.heap _
    rw [e2]
    exact ⟨rfl, N0, rfl⟩
theorem ef_rn_neg (m : MethodId) (x0 : Addr)  : entryFrame m #[(.ref x0)] 1 = mkF m 0 #[.val (.ref x0)] [] := by first | (simp [entryFrame, mkF, argsToLocals, Value.category]; done) | rfl
theorem d_prog_5_method_8_code_0 : decode prog_5_method_8_code 0 = .ok (.aload_n 0, 1) := by decide +kernel
theorem d_prog_5_method_8_code_1 : decode prog_5_method_8_code 1 = .ok (.getfield 13, 3) := by decide +kernel
theorem d_prog_5_method_8_code_4 : decode prog_5_method_8_code 4 = .ok (.lconst 0, 1) := by decide +kernel
theorem d_prog_5_method_8_code_5 : decode prog_5_method_8_code 5 = .ok (.lcmp, 1) := by decide +kernel
theorem d_prog_5_method_8_code_6 : decode prog_5_method_8_code 6 = .ok (.ifCond .ge 9, 3) := by decide +kernel
theorem d_prog_5_method_8_code_9 : decode prog_5_method_8_code 9 = .ok (.ldc2_w 45, 3) := by decide +kernel
theorem d_prog_5_method_8_code_12 : decode prog_5_method_8_code 12 = .ok (.goto 15, 3) := by decide +kernel
theorem d_prog_5_method_8_code_27 : decode prog_5_method_8_code 27 = .ok (.lreturn, 1) := by decide +kernel
abbrev own_m7 : MethodName := ⟨"com/example/plus1/plus1/Take", "retryNanos", "()J"⟩
def Q_rn_neg (Z : State) (q0 : Addr) (p1 : Int64) (a_TRUE : Addr) (a_MILLISECONDS : Addr) (a_MILLISECONDS_name : Addr) (a_FALSE : Addr) (h0 : Heap) (n0 : Nat) (v : Option Value) (h : Heap) (L : List Loc) : Prop := v = some (.long (9223372036854775807 : Int64)) ∧ Fr n0 L ∧ h = h0
set_option maxRecDepth 65536 in
set_option maxHeartbeats 40000000 in
theorem rm_rn_neg (l : Launch) (Z : State) (a0 : Array Value) (hw : ∀ d ∈ tables_1, d.before a0 Z = true) (ws : List Jvm.Cond) (q0 : Addr) (p1 : Int64) (a_TRUE : Addr) (a_MILLISECONDS : Addr) (a_MILLISECONDS_name : Addr) (a_FALSE : Addr) (h0 : Heap) (n0 : Nat) (O0 : Old Z n0 h0) (hE : EV Z a_TRUE a_MILLISECONDS a_MILLISECONDS_name a_FALSE) (F0 : Fld Z h0 q0 "com/example/plus1/plus1/Take" "retryMillis" "J" (.long p1)) (hlt : (lcmpW p1 (0 : Int64)) < (0 : Int32)) :
    MetFree l own_m7 (head1 (Jvm.Cond.code own_m7 prog_5_method_8_code 1 (some .long) :: ws) ({ frames := 0, cells := 0, slots := 0, locals := 0 } : Room)) (fun a U => a = #[(.ref q0)] ∧ Z.Warmed39 U.vm ∧ U.heap = h0) (fun _ _ _ _ _ => True) (fun _ U o U' => ∃ v L, o = .returned v ∧ Q_rn_neg Z q0 p1 a_TRUE a_MILLISECONDS a_MILLISECONDS_name a_FALSE h0 n0 v U'.heap L ∧ FrameEnd U o U' L ({ frames := 0, cells := 0, slots := 0, locals := 0 } : Room).cells ({ frames := 0, cells := 0, slots := 0, locals := 0 } : Room).slots) := by
  refine MetFree.of_bodySF (plainFor_of_name pn_com_example_plus1_plus1_Take) hisR ?_
  intro p e s m args below meth c s₁ Bd hml0 hP hK
  obtain ⟨rfl, hZ, hh⟩ := hP
  have hx := Bd.exec
  have hby := Bd.bytes
  have hml : c.maxLocals = 1 := hml0
  have hown : s.vm.findClass "com/example/plus1/plus1/Take" = some m.cls := findClass_of_methodNamed Bd.named
  have hnm := (name_of_methodNamed Bd.named Bd.method).1
  have X0 : Stand p l e ({ frames := 0, cells := 0, slots := 0, locals := 0 } : Room) s m #[(.ref q0)] below meth c s₁ [] 0 0 := Stand.of_body Bd
  have e0 : s₁.heap = h0 := by rw [← hh, Bd.state]; rfl
  have N0 := Fr.nil n0
  refine Classical.byContradiction fun hNG => ?_
  have K0 := Keep.refl h0 []
  have k0 : ∀ t, own_At p e below m s₁ 0 #[.val (.ref q0)] [] t → own_En p e below m s₁ #[(.ref q0)] 1 t := fun t k => castTop (ef_rn_neg m q0 ) k
  obtain ⟨S_TRUE, E_TRUE, F_TRUE_value, S_MILLISECONDS, E_MILLISECONDS, F_MILLISECONDS_name, E_MILLISECONDS_name, F_MILLISECONDS_ordinal, F_MILLISECONDS_scale, F_MILLISECONDS_maxNanos, F_MILLISECONDS_microRatio, F_MILLISECONDS_maxMicros, F_MILLISECONDS_milliRatio, F_MILLISECONDS_maxMillis, F_MILLISECONDS_secRatio, F_MILLISECONDS_maxSecs, S_FALSE, E_FALSE, F_FALSE_value⟩ := (id hE : EV Z a_TRUE a_MILLISECONDS a_MILLISECONDS_name a_FALSE)
  obtain ⟨T1, X1, e1, st1⟩ := getF X0 hx hZ hown (host := "") (Or.inl (own_w hw 19 rfl)) Via.refl e0 F0 (g := (mkF m 1 #[.val (.ref q0)] [(.ref q0)])) rfl rfl (hb hby d_prog_5_method_8_code_1)
  have k2 : ∀ t, own_At p e below m T1 27 #[.val (.ref q0)] [(.long (9223372036854775807 : Int64))] t → own_En p e below m s₁ #[(.ref q0)] 1 t := by
    intro t k
    refine k0 t ?_
    refine XS.aloadN X0.here hx rfl (hb hby d_prog_5_method_8_code_0) rfl rfl ?_
    show own_At p e below m s₁ 1 #[.val (.ref q0)] [(.ref q0)] t
    refine st1 _ ?_
    show own_At p e below m T1 4 #[.val (.ref q0)] [(.long p1)] t
    refine XS.lconst X1.here hx rfl (hb hby d_prog_5_method_8_code_4) ?_
    show own_At p e below m T1 5 #[.val (.ref q0)] [(.long (0 : Int64)), (.long p1)] t
    refine XS.lcmp X1.here hx rfl (hb hby d_prog_5_method_8_code_5) rfl ?_
    show own_At p e below m T1 6 #[.val (.ref q0)] [(.int (lcmpW p1 (0 : Int64)))] t
    refine XS.ifNo X1.here hx rfl (hb hby d_prog_5_method_8_code_6) rfl ((if0 _ _).trans (tlt hlt).2.1) ?_
    show own_At p e below m T1 9 #[.val (.ref q0)] [] t
    refine X1.ldc2J hx hown (mvT hZ (own_w hw 70 rfl)) rfl (hb hby d_prog_5_method_8_code_9) ?_
    show own_At p e below m T1 12 #[.val (.ref q0)] [(.long (9223372036854775807 : Int64))] t
    refine XS.goto X1.here hx rfl (pc0 := 12) (pc' := 27) rfl (hb hby d_prog_5_method_8_code_12) (by decide) (by decide) ?_
    show own_At p e below m T1 27 #[.val (.ref q0)] [(.long (9223372036854775807 : Int64))] t
    exact k
  obtain ⟨fs, hr, hrun, hended, hW, hsame⟩ := X1.leave (v := some (.long (9223372036854775807 : Int64))) (fun h => by rw [Bd.returns] at h; cases h)
  refine hNG ⟨_, _, k2 _ ?_, hrun, hended, _, _, rfl, ?_, ⟨_, rfl⟩, hW, hsame.mono (by decide) (by decide)⟩
  · exact retOut X1 hx (t := .long) Bd.returns rfl (Or.inr (Or.inl ⟨rfl, rfl, _, rfl⟩)) (hb hby d_prog_5_method_8_code_27) hr
  · show Q_rn_neg Z q0 p1 a_TRUE a_MILLISECONDS a_MILLISECONDS_name a_FALSE h0 n0 _ T1.heap _
    rw [e1]
    exact ⟨rfl, N0, rfl⟩
theorem ef_rn_t (m : MethodId) (x0 : Addr)  : entryFrame m #[(.ref x0)] 1 = mkF m 0 #[.val (.ref x0)] [] := by first | (simp [entryFrame, mkF, argsToLocals, Value.category]; done) | rfl
theorem d_prog_5_method_8_code_15 : decode prog_5_method_8_code 15 = .ok (.getstatic 47, 3) := by decide +kernel
theorem d_prog_5_method_8_code_18 : decode prog_5_method_8_code 18 = .ok (.aload_n 0, 1) := by decide +kernel
theorem d_prog_5_method_8_code_19 : decode prog_5_method_8_code 19 = .ok (.getfield 13, 3) := by decide +kernel
theorem d_prog_5_method_8_code_22 : decode prog_5_method_8_code 22 = .ok (.lconst 1, 1) := by decide +kernel
theorem d_prog_5_method_8_code_23 : decode prog_5_method_8_code 23 = .ok (.ladd, 1) := by decide +kernel
theorem d_prog_5_method_8_code_24 : decode prog_5_method_8_code 24 = .ok (.invokevirtual 53, 3) := by decide +kernel
theorem pd__J_J : parseMethodDescriptor "(J)J" = some ⟨[.long], some .long⟩ := by decide +kernel
def Q_rn_t (Z : State) (q0 : Addr) (p1 : Int64) (a_TRUE : Addr) (a_MILLISECONDS : Addr) (a_MILLISECONDS_name : Addr) (a_FALSE : Addr) (h0 : Heap) (n0 : Nat) (v : Option Value) (h : Heap) (L : List Loc) : Prop := v = some (.long (9223372036854775807 : Int64)) ∧ Fr n0 L ∧ h = h0
set_option maxRecDepth 65536 in
set_option maxHeartbeats 40000000 in
theorem rm_rn_t (l : Launch) (Z : State) (a0 : Array Value) (hw : ∀ d ∈ tables_1, d.before a0 Z = true) (ws : List Jvm.Cond) (q0 : Addr) (p1 : Int64) (a_TRUE : Addr) (a_MILLISECONDS : Addr) (a_MILLISECONDS_name : Addr) (a_FALSE : Addr) (h0 : Heap) (n0 : Nat) (O0 : Old Z n0 h0) (hE : EV Z a_TRUE a_MILLISECONDS a_MILLISECONDS_name a_FALSE) (F0 : Fld Z h0 q0 "com/example/plus1/plus1/Take" "retryMillis" "J" (.long p1)) (hnq : ¬ ((lcmpW p1 (9223372036854775807 : Int64)) = (0 : Int32))) (hlt : ¬ ((lcmpW p1 (0 : Int64)) < (0 : Int32))) (hgt : (0 : Int32) < (lcmpW (p1 + (1 : Int64)) (9223372036854 : Int64))) :
    MetFree l own_m7 (head1 (Jvm.Cond.code own_m7 prog_5_method_8_code 1 (some .long) :: ws) ({ frames := 1, cells := 0, slots := 0, locals := 18 } : Room)) (fun a U => a = #[(.ref q0)] ∧ Z.Warmed39 U.vm ∧ U.heap = h0) (fun _ _ _ _ _ => True) (fun _ U o U' => ∃ v L, o = .returned v ∧ Q_rn_t Z q0 p1 a_TRUE a_MILLISECONDS a_MILLISECONDS_name a_FALSE h0 n0 v U'.heap L ∧ FrameEnd U o U' L ({ frames := 1, cells := 0, slots := 0, locals := 18 } : Room).cells ({ frames := 1, cells := 0, slots := 0, locals := 18 } : Room).slots) := by
  refine MetFree.of_bodySF (plainFor_of_name pn_com_example_plus1_plus1_Take) hisR ?_
  intro p e s m args below meth c s₁ Bd hml0 hP hK
  obtain ⟨rfl, hZ, hh⟩ := hP
  have hx := Bd.exec
  have hby := Bd.bytes
  have hml : c.maxLocals = 1 := hml0
  have hown : s.vm.findClass "com/example/plus1/plus1/Take" = some m.cls := findClass_of_methodNamed Bd.named
  have hnm := (name_of_methodNamed Bd.named Bd.method).1
  have X0 : Stand p l e ({ frames := 1, cells := 0, slots := 0, locals := 18 } : Room) s m #[(.ref q0)] below meth c s₁ [] 0 0 := Stand.of_body Bd
  have e0 : s₁.heap = h0 := by rw [← hh, Bd.state]; rfl
  have N0 := Fr.nil n0
  refine Classical.byContradiction fun hNG => ?_
  have K0 := Keep.refl h0 []
  have k0 : ∀ t, own_At p e below m s₁ 0 #[.val (.ref q0)] [] t → own_En p e below m s₁ #[(.ref q0)] 1 t := fun t k => castTop (ef_rn_t m q0 ) k
  obtain ⟨S_TRUE, E_TRUE, F_TRUE_value, S_MILLISECONDS, E_MILLISECONDS, F_MILLISECONDS_name, E_MILLISECONDS_name, F_MILLISECONDS_ordinal, F_MILLISECONDS_scale, F_MILLISECONDS_maxNanos, F_MILLISECONDS_microRatio, F_MILLISECONDS_maxMicros, F_MILLISECONDS_milliRatio, F_MILLISECONDS_maxMillis, F_MILLISECONDS_secRatio, F_MILLISECONDS_maxSecs, S_FALSE, E_FALSE, F_FALSE_value⟩ := (id hE : EV Z a_TRUE a_MILLISECONDS a_MILLISECONDS_name a_FALSE)
  obtain ⟨T1, X1, e1, st1⟩ := getF X0 hx hZ hown (host := "") (Or.inl (own_w hw 19 rfl)) Via.refl e0 F0 (g := (mkF m 1 #[.val (.ref q0)] [(.ref q0)])) rfl rfl (hb hby d_prog_5_method_8_code_1)
  obtain ⟨T2, X2, e2, st2⟩ := getS2 X1 hx hZ hown (host := "") (Or.inl (own_w hw 51 rfl)) Via.refl e1 (S_MILLISECONDS.ext O0.2) (g := (mkF m 15 #[.val (.ref q0)] [])) rfl (hb hby d_prog_5_method_8_code_15)
  obtain ⟨T3, X3, e3, st3⟩ := getF X2 hx hZ hown (host := "") (Or.inl (own_w hw 19 rfl)) Via.refl e2 F0 (g := (mkF m 19 #[.val (.ref q0)] [(.ref q0), (.ref a_MILLISECONDS)])) rfl rfl (hb hby d_prog_5_method_8_code_19)
  obtain ⟨cq4, kq4, q4a, q4b, q4c⟩ := isOf hZ e3 (E_MILLISECONDS.ext O0.2)
  obtain ⟨_, _, ⟨T4, L4, k4, n4⟩, -, X4, ⟨Lc4, hQ4, l4, y4, z4⟩, st4⟩ := X3.virtualBack hx (y := own_m6) (z := own_m6) hown (mvT hZ (own_w hw 53 rfl)) (mvT hZ (own_w hw 54 rfl)) (notFace_of_selects (args := #[]) (mvT hZ (own_w hw 56 rfl))) (mvT hZ (own_w hw 56 rfl)) (mvT hZ (own_w hw 55 rfl)) (by decide) (backOf (W := 0) (rm_tn_t l Z a0 hw [] p1 _ _ _ _ h0 n0 O0 hE hgt (own_low hnq hlt)) hZ (own_w hw 57 rfl) (own_w hw 52 rfl) (by decide) (by decide)) q4a q4c (g := (mkF m 24 #[.val (.ref q0)] [(.long (p1 + (1 : Int64))), (.ref a_MILLISECONDS)])) rfl (by rw [hml]; rfl) (Steps.refl _) (argsL := [(.long (p1 + (1 : Int64)))]) (rest := []) (lenOf pd__J_J rfl) rfl (by show 2 * 0 + _ ≤ _; exact Nat.le_of_eq rfl) (hb hby d_prog_5_method_8_code_24) (fun _ _ => ⟨rfl, e3, (by decide : 0 + 0 ≤ _), (by decide : 0 + 0 ≤ _)⟩)
  dsimp only [Pt.U, Pt.locs, Pt.cells, Pt.slots] at X4 l4 y4 z4 st4 hQ4
  subst l4 y4 z4
  obtain ⟨rfl, N4q, hp4⟩ := hQ4
  have N4 := Fr.app N0 N4q
  have k5 : ∀ t, own_At p e below m T4 27 #[.val (.ref q0)] [(.long (9223372036854775807 : Int64))] t → own_En p e below m s₁ #[(.ref q0)] 1 t := by
    intro t k
    refine k0 t ?_
    refine XS.aloadN X0.here hx rfl (hb hby d_prog_5_method_8_code_0) rfl rfl ?_
    show own_At p e below m s₁ 1 #[.val (.ref q0)] [(.ref q0)] t
    refine st1 _ ?_
    show own_At p e below m T1 4 #[.val (.ref q0)] [(.long p1)] t
    refine XS.lconst X1.here hx rfl (hb hby d_prog_5_method_8_code_4) ?_
    show own_At p e below m T1 5 #[.val (.ref q0)] [(.long (0 : Int64)), (.long p1)] t
    refine XS.lcmp X1.here hx rfl (hb hby d_prog_5_method_8_code_5) rfl ?_
    show own_At p e below m T1 6 #[.val (.ref q0)] [(.int (lcmpW p1 (0 : Int64)))] t
    refine XS.ifYes X1.here hx rfl (pc0 := 6) (pc' := 15) rfl (hb hby d_prog_5_method_8_code_6) rfl ((if0 _ _).trans (flt hlt).2.1) (by decide) (by decide) ?_
    show own_At p e below m T1 15 #[.val (.ref q0)] [] t
    refine st2 _ ?_
    show own_At p e below m T2 18 #[.val (.ref q0)] [(.ref a_MILLISECONDS)] t
    refine XS.aloadN X2.here hx rfl (hb hby d_prog_5_method_8_code_18) rfl rfl ?_
    show own_At p e below m T2 19 #[.val (.ref q0)] [(.ref q0), (.ref a_MILLISECONDS)] t
    refine st3 _ ?_
    show own_At p e below m T3 22 #[.val (.ref q0)] [(.long p1), (.ref a_MILLISECONDS)] t
    refine XS.lconst X3.here hx rfl (hb hby d_prog_5_method_8_code_22) ?_
    show own_At p e below m T3 23 #[.val (.ref q0)] [(.long (1 : Int64)), (.long p1), (.ref a_MILLISECONDS)] t
    refine XS.ladd X3.here hx rfl (hb hby d_prog_5_method_8_code_23) rfl ?_
    show own_At p e below m T3 24 #[.val (.ref q0)] [(.long (p1 + (1 : Int64))), (.ref a_MILLISECONDS)] t
    refine st4.trans ?_
    show own_At p e below m T4 27 #[.val (.ref q0)] [(.long (9223372036854775807 : Int64))] t
    exact k
  obtain ⟨fs, hr, hrun, hended, hW, hsame⟩ := X4.leave (v := some (.long (9223372036854775807 : Int64))) (fun h => by rw [Bd.returns] at h; cases h)
  refine hNG ⟨_, _, k5 _ ?_, hrun, hended, _, _, rfl, ?_, ⟨_, rfl⟩, hW, hsame.mono (by decide) (by decide)⟩
  · exact retOut X4 hx (t := .long) Bd.returns rfl (Or.inr (Or.inl ⟨rfl, rfl, _, rfl⟩)) (hb hby d_prog_5_method_8_code_27) hr
  · show Q_rn_t Z q0 p1 a_TRUE a_MILLISECONDS a_MILLISECONDS_name a_FALSE h0 n0 _ T4.heap _
    rw [hp4]
    exact ⟨rfl, N4, rfl⟩
theorem ef_rn_f (m : MethodId) (x0 : Addr)  : entryFrame m #[(.ref x0)] 1 = mkF m 0 #[.val (.ref x0)] [] := by first | (simp [entryFrame, mkF, argsToLocals, Value.category]; done) | rfl
def Q_rn_f (Z : State) (q0 : Addr) (p1 : Int64) (a_TRUE : Addr) (a_MILLISECONDS : Addr) (a_MILLISECONDS_name : Addr) (a_FALSE : Addr) (h0 : Heap) (n0 : Nat) (v : Option Value) (h : Heap) (L : List Loc) : Prop := v = some (.long ((p1 + (1 : Int64)) * (1000000 : Int64))) ∧ Fr n0 L ∧ h = h0
set_option maxRecDepth 65536 in
set_option maxHeartbeats 40000000 in
theorem rm_rn_f (l : Launch) (Z : State) (a0 : Array Value) (hw : ∀ d ∈ tables_1, d.before a0 Z = true) (ws : List Jvm.Cond) (q0 : Addr) (p1 : Int64) (a_TRUE : Addr) (a_MILLISECONDS : Addr) (a_MILLISECONDS_name : Addr) (a_FALSE : Addr) (h0 : Heap) (n0 : Nat) (O0 : Old Z n0 h0) (hE : EV Z a_TRUE a_MILLISECONDS a_MILLISECONDS_name a_FALSE) (F0 : Fld Z h0 q0 "com/example/plus1/plus1/Take" "retryMillis" "J" (.long p1)) (hnq : ¬ ((lcmpW p1 (9223372036854775807 : Int64)) = (0 : Int32))) (hlt : ¬ ((lcmpW p1 (0 : Int64)) < (0 : Int32))) (hgt : ¬ ((0 : Int32) < (lcmpW (p1 + (1 : Int64)) (9223372036854 : Int64)))) :
    MetFree l own_m7 (head1 (Jvm.Cond.code own_m7 prog_5_method_8_code 1 (some .long) :: ws) ({ frames := 1, cells := 0, slots := 0, locals := 18 } : Room)) (fun a U => a = #[(.ref q0)] ∧ Z.Warmed39 U.vm ∧ U.heap = h0) (fun _ _ _ _ _ => True) (fun _ U o U' => ∃ v L, o = .returned v ∧ Q_rn_f Z q0 p1 a_TRUE a_MILLISECONDS a_MILLISECONDS_name a_FALSE h0 n0 v U'.heap L ∧ FrameEnd U o U' L ({ frames := 1, cells := 0, slots := 0, locals := 18 } : Room).cells ({ frames := 1, cells := 0, slots := 0, locals := 18 } : Room).slots) := by
  refine MetFree.of_bodySF (plainFor_of_name pn_com_example_plus1_plus1_Take) hisR ?_
  intro p e s m args below meth c s₁ Bd hml0 hP hK
  obtain ⟨rfl, hZ, hh⟩ := hP
  have hx := Bd.exec
  have hby := Bd.bytes
  have hml : c.maxLocals = 1 := hml0
  have hown : s.vm.findClass "com/example/plus1/plus1/Take" = some m.cls := findClass_of_methodNamed Bd.named
  have hnm := (name_of_methodNamed Bd.named Bd.method).1
  have X0 : Stand p l e ({ frames := 1, cells := 0, slots := 0, locals := 18 } : Room) s m #[(.ref q0)] below meth c s₁ [] 0 0 := Stand.of_body Bd
  have e0 : s₁.heap = h0 := by rw [← hh, Bd.state]; rfl
  have N0 := Fr.nil n0
  refine Classical.byContradiction fun hNG => ?_
  have K0 := Keep.refl h0 []
  have k0 : ∀ t, own_At p e below m s₁ 0 #[.val (.ref q0)] [] t → own_En p e below m s₁ #[(.ref q0)] 1 t := fun t k => castTop (ef_rn_f m q0 ) k
  obtain ⟨S_TRUE, E_TRUE, F_TRUE_value, S_MILLISECONDS, E_MILLISECONDS, F_MILLISECONDS_name, E_MILLISECONDS_name, F_MILLISECONDS_ordinal, F_MILLISECONDS_scale, F_MILLISECONDS_maxNanos, F_MILLISECONDS_microRatio, F_MILLISECONDS_maxMicros, F_MILLISECONDS_milliRatio, F_MILLISECONDS_maxMillis, F_MILLISECONDS_secRatio, F_MILLISECONDS_maxSecs, S_FALSE, E_FALSE, F_FALSE_value⟩ := (id hE : EV Z a_TRUE a_MILLISECONDS a_MILLISECONDS_name a_FALSE)
  obtain ⟨T1, X1, e1, st1⟩ := getF X0 hx hZ hown (host := "") (Or.inl (own_w hw 19 rfl)) Via.refl e0 F0 (g := (mkF m 1 #[.val (.ref q0)] [(.ref q0)])) rfl rfl (hb hby d_prog_5_method_8_code_1)
  obtain ⟨T2, X2, e2, st2⟩ := getS2 X1 hx hZ hown (host := "") (Or.inl (own_w hw 51 rfl)) Via.refl e1 (S_MILLISECONDS.ext O0.2) (g := (mkF m 15 #[.val (.ref q0)] [])) rfl (hb hby d_prog_5_method_8_code_15)
  obtain ⟨T3, X3, e3, st3⟩ := getF X2 hx hZ hown (host := "") (Or.inl (own_w hw 19 rfl)) Via.refl e2 F0 (g := (mkF m 19 #[.val (.ref q0)] [(.ref q0), (.ref a_MILLISECONDS)])) rfl rfl (hb hby d_prog_5_method_8_code_19)
  obtain ⟨cq4, kq4, q4a, q4b, q4c⟩ := isOf hZ e3 (E_MILLISECONDS.ext O0.2)
  obtain ⟨_, _, ⟨T4, L4, k4, n4⟩, -, X4, ⟨Lc4, hQ4, l4, y4, z4⟩, st4⟩ := X3.virtualBack hx (y := own_m6) (z := own_m6) hown (mvT hZ (own_w hw 53 rfl)) (mvT hZ (own_w hw 54 rfl)) (notFace_of_selects (args := #[]) (mvT hZ (own_w hw 56 rfl))) (mvT hZ (own_w hw 56 rfl)) (mvT hZ (own_w hw 55 rfl)) (by decide) (backOf (W := 0) (rm_tn_f l Z a0 hw [] p1 _ _ _ _ h0 n0 O0 hE hgt (own_low hnq hlt)) hZ (own_w hw 57 rfl) (own_w hw 52 rfl) (by decide) (by decide)) q4a q4c (g := (mkF m 24 #[.val (.ref q0)] [(.long (p1 + (1 : Int64))), (.ref a_MILLISECONDS)])) rfl (by rw [hml]; rfl) (Steps.refl _) (argsL := [(.long (p1 + (1 : Int64)))]) (rest := []) (lenOf pd__J_J rfl) rfl (by show 2 * 0 + _ ≤ _; exact Nat.le_of_eq rfl) (hb hby d_prog_5_method_8_code_24) (fun _ _ => ⟨rfl, e3, (by decide : 0 + 0 ≤ _), (by decide : 0 + 0 ≤ _)⟩)
  dsimp only [Pt.U, Pt.locs, Pt.cells, Pt.slots] at X4 l4 y4 z4 st4 hQ4
  subst l4 y4 z4
  obtain ⟨rfl, N4q, hp4⟩ := hQ4
  have N4 := Fr.app N0 N4q
  have k5 : ∀ t, own_At p e below m T4 27 #[.val (.ref q0)] [(.long ((p1 + (1 : Int64)) * (1000000 : Int64)))] t → own_En p e below m s₁ #[(.ref q0)] 1 t := by
    intro t k
    refine k0 t ?_
    refine XS.aloadN X0.here hx rfl (hb hby d_prog_5_method_8_code_0) rfl rfl ?_
    show own_At p e below m s₁ 1 #[.val (.ref q0)] [(.ref q0)] t
    refine st1 _ ?_
    show own_At p e below m T1 4 #[.val (.ref q0)] [(.long p1)] t
    refine XS.lconst X1.here hx rfl (hb hby d_prog_5_method_8_code_4) ?_
    show own_At p e below m T1 5 #[.val (.ref q0)] [(.long (0 : Int64)), (.long p1)] t
    refine XS.lcmp X1.here hx rfl (hb hby d_prog_5_method_8_code_5) rfl ?_
    show own_At p e below m T1 6 #[.val (.ref q0)] [(.int (lcmpW p1 (0 : Int64)))] t
    refine XS.ifYes X1.here hx rfl (pc0 := 6) (pc' := 15) rfl (hb hby d_prog_5_method_8_code_6) rfl ((if0 _ _).trans (flt hlt).2.1) (by decide) (by decide) ?_
    show own_At p e below m T1 15 #[.val (.ref q0)] [] t
    refine st2 _ ?_
    show own_At p e below m T2 18 #[.val (.ref q0)] [(.ref a_MILLISECONDS)] t
    refine XS.aloadN X2.here hx rfl (hb hby d_prog_5_method_8_code_18) rfl rfl ?_
    show own_At p e below m T2 19 #[.val (.ref q0)] [(.ref q0), (.ref a_MILLISECONDS)] t
    refine st3 _ ?_
    show own_At p e below m T3 22 #[.val (.ref q0)] [(.long p1), (.ref a_MILLISECONDS)] t
    refine XS.lconst X3.here hx rfl (hb hby d_prog_5_method_8_code_22) ?_
    show own_At p e below m T3 23 #[.val (.ref q0)] [(.long (1 : Int64)), (.long p1), (.ref a_MILLISECONDS)] t
    refine XS.ladd X3.here hx rfl (hb hby d_prog_5_method_8_code_23) rfl ?_
    show own_At p e below m T3 24 #[.val (.ref q0)] [(.long (p1 + (1 : Int64))), (.ref a_MILLISECONDS)] t
    refine st4.trans ?_
    show own_At p e below m T4 27 #[.val (.ref q0)] [(.long ((p1 + (1 : Int64)) * (1000000 : Int64)))] t
    exact k
  obtain ⟨fs, hr, hrun, hended, hW, hsame⟩ := X4.leave (v := some (.long ((p1 + (1 : Int64)) * (1000000 : Int64)))) (fun h => by rw [Bd.returns] at h; cases h)
  refine hNG ⟨_, _, k5 _ ?_, hrun, hended, _, _, rfl, ?_, ⟨_, rfl⟩, hW, hsame.mono (by decide) (by decide)⟩
  · exact retOut X4 hx (t := .long) Bd.returns rfl (Or.inr (Or.inl ⟨rfl, rfl, _, rfl⟩)) (hb hby d_prog_5_method_8_code_27) hr
  · show Q_rn_f Z q0 p1 a_TRUE a_MILLISECONDS a_MILLISECONDS_name a_FALSE h0 n0 _ T4.heap _
    rw [hp4]
    exact ⟨rfl, N4, rfl⟩
theorem ef_xp_neg (m : MethodId) (x0 : Int64)  : entryFrame m #[(.long x0)] 4 = mkF m 0 #[.val (.long x0), .second, .unset, .unset] [] := by first | (simp [entryFrame, mkF, argsToLocals, Value.category]; done) | rfl
theorem d_method_2_code_0 : decode method_2_code 0 = .ok (.lload_n 0, 1) := by decide +kernel
theorem d_method_2_code_1 : decode method_2_code 1 = .ok (.lconst 0, 1) := by decide +kernel
theorem d_method_2_code_2 : decode method_2_code 2 = .ok (.lcmp, 1) := by decide +kernel
theorem d_method_2_code_3 : decode method_2_code 3 = .ok (.ifCond .ge 7, 3) := by decide +kernel
theorem d_method_2_code_6 : decode method_2_code 6 = .ok (.ldc2_w 9, 3) := by decide +kernel
theorem d_method_2_code_9 : decode method_2_code 9 = .ok (.lreturn, 1) := by decide +kernel
theorem pn_com_example_plus1_plus1_TakeOfPinLaw : plainName "com/example/plus1/plus1/TakeOfPinLaw" = true := by first | (simp [plainName, overriddenIn]; done) | decide +kernel
abbrev own_m8 : MethodName := ⟨"com/example/plus1/plus1/TakeOfPinLaw", "expectedRetryNanos", "(J)J"⟩
def Q_xp_neg (Z : State) (p1 : Int64) (a_TRUE : Addr) (a_MILLISECONDS : Addr) (a_MILLISECONDS_name : Addr) (a_FALSE : Addr) (h0 : Heap) (n0 : Nat) (v : Option Value) (h : Heap) (L : List Loc) : Prop := v = some (.long (9223372036854775807 : Int64)) ∧ Fr n0 L ∧ h = h0
set_option maxRecDepth 65536 in
set_option maxHeartbeats 40000000 in
theorem rm_xp_neg (l : Launch) (Z : State) (a0 : Array Value) (hw : ∀ d ∈ tables_1, d.before a0 Z = true) (ws : List Jvm.Cond) (p1 : Int64) (a_TRUE : Addr) (a_MILLISECONDS : Addr) (a_MILLISECONDS_name : Addr) (a_FALSE : Addr) (h0 : Heap) (n0 : Nat) (O0 : Old Z n0 h0) (hE : EV Z a_TRUE a_MILLISECONDS a_MILLISECONDS_name a_FALSE) (hlt : (lcmpW p1 (0 : Int64)) < (0 : Int32)) :
    MetFree l own_m8 (head1 (Jvm.Cond.code own_m8 method_2_code 4 (some .long) :: ws) ({ frames := 0, cells := 0, slots := 0, locals := 0 } : Room)) (fun a U => a = #[(.long p1)] ∧ Z.Warmed39 U.vm ∧ U.heap = h0) (fun _ _ _ _ _ => True) (fun _ U o U' => ∃ v L, o = .returned v ∧ Q_xp_neg Z p1 a_TRUE a_MILLISECONDS a_MILLISECONDS_name a_FALSE h0 n0 v U'.heap L ∧ FrameEnd U o U' L ({ frames := 0, cells := 0, slots := 0, locals := 0 } : Room).cells ({ frames := 0, cells := 0, slots := 0, locals := 0 } : Room).slots) := by
  refine MetFree.of_bodySF (plainFor_of_name pn_com_example_plus1_plus1_TakeOfPinLaw) hisR ?_
  intro p e s m args below meth c s₁ Bd hml0 hP hK
  obtain ⟨rfl, hZ, hh⟩ := hP
  have hx := Bd.exec
  have hby := Bd.bytes
  have hml : c.maxLocals = 4 := hml0
  have hown : s.vm.findClass "com/example/plus1/plus1/TakeOfPinLaw" = some m.cls := findClass_of_methodNamed Bd.named
  have hnm := (name_of_methodNamed Bd.named Bd.method).1
  have X0 : Stand p l e ({ frames := 0, cells := 0, slots := 0, locals := 0 } : Room) s m #[(.long p1)] below meth c s₁ [] 0 0 := Stand.of_body Bd
  have e0 : s₁.heap = h0 := by rw [← hh, Bd.state]; rfl
  have N0 := Fr.nil n0
  refine Classical.byContradiction fun hNG => ?_
  have K0 := Keep.refl h0 []
  have k0 : ∀ t, own_At p e below m s₁ 0 #[.val (.long p1), .second, .unset, .unset] [] t → own_En p e below m s₁ #[(.long p1)] 4 t := fun t k => castTop (ef_xp_neg m p1 ) k
  obtain ⟨S_TRUE, E_TRUE, F_TRUE_value, S_MILLISECONDS, E_MILLISECONDS, F_MILLISECONDS_name, E_MILLISECONDS_name, F_MILLISECONDS_ordinal, F_MILLISECONDS_scale, F_MILLISECONDS_maxNanos, F_MILLISECONDS_microRatio, F_MILLISECONDS_maxMicros, F_MILLISECONDS_milliRatio, F_MILLISECONDS_maxMillis, F_MILLISECONDS_secRatio, F_MILLISECONDS_maxSecs, S_FALSE, E_FALSE, F_FALSE_value⟩ := (id hE : EV Z a_TRUE a_MILLISECONDS a_MILLISECONDS_name a_FALSE)
  have k1 : ∀ t, own_At p e below m s₁ 9 #[.val (.long p1), .second, .unset, .unset] [(.long (9223372036854775807 : Int64))] t → own_En p e below m s₁ #[(.long p1)] 4 t := by
    intro t k
    refine k0 t ?_
    refine XS.lloadN X0.here hx rfl (hb hby d_method_2_code_0) rfl ?_
    show own_At p e below m s₁ 1 #[.val (.long p1), .second, .unset, .unset] [(.long p1)] t
    refine XS.lconst X0.here hx rfl (hb hby d_method_2_code_1) ?_
    show own_At p e below m s₁ 2 #[.val (.long p1), .second, .unset, .unset] [(.long (0 : Int64)), (.long p1)] t
    refine XS.lcmp X0.here hx rfl (hb hby d_method_2_code_2) rfl ?_
    show own_At p e below m s₁ 3 #[.val (.long p1), .second, .unset, .unset] [(.int (lcmpW p1 (0 : Int64)))] t
    refine XS.ifNo X0.here hx rfl (hb hby d_method_2_code_3) rfl ((if0 _ _).trans (tlt hlt).2.1) ?_
    show own_At p e below m s₁ 6 #[.val (.long p1), .second, .unset, .unset] [] t
    refine X0.ldc2J hx hown (mvT hZ (own_w hw 45 rfl)) rfl (hb hby d_method_2_code_6) ?_
    show own_At p e below m s₁ 9 #[.val (.long p1), .second, .unset, .unset] [(.long (9223372036854775807 : Int64))] t
    exact k
  obtain ⟨fs, hr, hrun, hended, hW, hsame⟩ := X0.leave (v := some (.long (9223372036854775807 : Int64))) (fun h => by rw [Bd.returns] at h; cases h)
  refine hNG ⟨_, _, k1 _ ?_, hrun, hended, _, _, rfl, ?_, ⟨_, rfl⟩, hW, hsame.mono (by decide) (by decide)⟩
  · exact retOut X0 hx (t := .long) Bd.returns rfl (Or.inr (Or.inl ⟨rfl, rfl, _, rfl⟩)) (hb hby d_method_2_code_9) hr
  · show Q_xp_neg Z p1 a_TRUE a_MILLISECONDS a_MILLISECONDS_name a_FALSE h0 n0 _ s₁.heap _
    rw [e0]
    exact ⟨rfl, N0, rfl⟩
theorem ef_xp_t (m : MethodId) (x0 : Int64)  : entryFrame m #[(.long x0)] 4 = mkF m 0 #[.val (.long x0), .second, .unset, .unset] [] := by first | (simp [entryFrame, mkF, argsToLocals, Value.category]; done) | rfl
theorem d_method_2_code_10 : decode method_2_code 10 = .ok (.lload_n 0, 1) := by decide +kernel
theorem d_method_2_code_11 : decode method_2_code 11 = .ok (.lconst 1, 1) := by decide +kernel
theorem d_method_2_code_12 : decode method_2_code 12 = .ok (.ladd, 1) := by decide +kernel
theorem d_method_2_code_13 : decode method_2_code 13 = .ok (.lstore_n 2, 1) := by decide +kernel
theorem d_method_2_code_14 : decode method_2_code 14 = .ok (.lload_n 2, 1) := by decide +kernel
theorem d_method_2_code_15 : decode method_2_code 15 = .ok (.ldc2_w 11, 3) := by decide +kernel
theorem d_method_2_code_18 : decode method_2_code 18 = .ok (.lcmp, 1) := by decide +kernel
theorem d_method_2_code_19 : decode method_2_code 19 = .ok (.ifCond .le 7, 3) := by decide +kernel
theorem d_method_2_code_22 : decode method_2_code 22 = .ok (.ldc2_w 9, 3) := by decide +kernel
theorem d_method_2_code_25 : decode method_2_code 25 = .ok (.lreturn, 1) := by decide +kernel
def Q_xp_t (Z : State) (p1 : Int64) (a_TRUE : Addr) (a_MILLISECONDS : Addr) (a_MILLISECONDS_name : Addr) (a_FALSE : Addr) (h0 : Heap) (n0 : Nat) (v : Option Value) (h : Heap) (L : List Loc) : Prop := v = some (.long (9223372036854775807 : Int64)) ∧ Fr n0 L ∧ h = h0
set_option maxRecDepth 65536 in
set_option maxHeartbeats 40000000 in
theorem rm_xp_t (l : Launch) (Z : State) (a0 : Array Value) (hw : ∀ d ∈ tables_1, d.before a0 Z = true) (ws : List Jvm.Cond) (p1 : Int64) (a_TRUE : Addr) (a_MILLISECONDS : Addr) (a_MILLISECONDS_name : Addr) (a_FALSE : Addr) (h0 : Heap) (n0 : Nat) (O0 : Old Z n0 h0) (hE : EV Z a_TRUE a_MILLISECONDS a_MILLISECONDS_name a_FALSE) (hlt : ¬ ((lcmpW p1 (0 : Int64)) < (0 : Int32))) (hgt : (0 : Int32) < (lcmpW (p1 + (1 : Int64)) (9223372036854 : Int64))) :
    MetFree l own_m8 (head1 (Jvm.Cond.code own_m8 method_2_code 4 (some .long) :: ws) ({ frames := 0, cells := 0, slots := 0, locals := 0 } : Room)) (fun a U => a = #[(.long p1)] ∧ Z.Warmed39 U.vm ∧ U.heap = h0) (fun _ _ _ _ _ => True) (fun _ U o U' => ∃ v L, o = .returned v ∧ Q_xp_t Z p1 a_TRUE a_MILLISECONDS a_MILLISECONDS_name a_FALSE h0 n0 v U'.heap L ∧ FrameEnd U o U' L ({ frames := 0, cells := 0, slots := 0, locals := 0 } : Room).cells ({ frames := 0, cells := 0, slots := 0, locals := 0 } : Room).slots) := by
  refine MetFree.of_bodySF (plainFor_of_name pn_com_example_plus1_plus1_TakeOfPinLaw) hisR ?_
  intro p e s m args below meth c s₁ Bd hml0 hP hK
  obtain ⟨rfl, hZ, hh⟩ := hP
  have hx := Bd.exec
  have hby := Bd.bytes
  have hml : c.maxLocals = 4 := hml0
  have hown : s.vm.findClass "com/example/plus1/plus1/TakeOfPinLaw" = some m.cls := findClass_of_methodNamed Bd.named
  have hnm := (name_of_methodNamed Bd.named Bd.method).1
  have X0 : Stand p l e ({ frames := 0, cells := 0, slots := 0, locals := 0 } : Room) s m #[(.long p1)] below meth c s₁ [] 0 0 := Stand.of_body Bd
  have e0 : s₁.heap = h0 := by rw [← hh, Bd.state]; rfl
  have N0 := Fr.nil n0
  refine Classical.byContradiction fun hNG => ?_
  have K0 := Keep.refl h0 []
  have k0 : ∀ t, own_At p e below m s₁ 0 #[.val (.long p1), .second, .unset, .unset] [] t → own_En p e below m s₁ #[(.long p1)] 4 t := fun t k => castTop (ef_xp_t m p1 ) k
  obtain ⟨S_TRUE, E_TRUE, F_TRUE_value, S_MILLISECONDS, E_MILLISECONDS, F_MILLISECONDS_name, E_MILLISECONDS_name, F_MILLISECONDS_ordinal, F_MILLISECONDS_scale, F_MILLISECONDS_maxNanos, F_MILLISECONDS_microRatio, F_MILLISECONDS_maxMicros, F_MILLISECONDS_milliRatio, F_MILLISECONDS_maxMillis, F_MILLISECONDS_secRatio, F_MILLISECONDS_maxSecs, S_FALSE, E_FALSE, F_FALSE_value⟩ := (id hE : EV Z a_TRUE a_MILLISECONDS a_MILLISECONDS_name a_FALSE)
  have k1 : ∀ t, own_At p e below m s₁ 25 #[.val (.long p1), .second, .val (.long (p1 + (1 : Int64))), .second] [(.long (9223372036854775807 : Int64))] t → own_En p e below m s₁ #[(.long p1)] 4 t := by
    intro t k
    refine k0 t ?_
    refine XS.lloadN X0.here hx rfl (hb hby d_method_2_code_0) rfl ?_
    show own_At p e below m s₁ 1 #[.val (.long p1), .second, .unset, .unset] [(.long p1)] t
    refine XS.lconst X0.here hx rfl (hb hby d_method_2_code_1) ?_
    show own_At p e below m s₁ 2 #[.val (.long p1), .second, .unset, .unset] [(.long (0 : Int64)), (.long p1)] t
    refine XS.lcmp X0.here hx rfl (hb hby d_method_2_code_2) rfl ?_
    show own_At p e below m s₁ 3 #[.val (.long p1), .second, .unset, .unset] [(.int (lcmpW p1 (0 : Int64)))] t
    refine XS.ifYes X0.here hx rfl (pc0 := 3) (pc' := 10) rfl (hb hby d_method_2_code_3) rfl ((if0 _ _).trans (flt hlt).2.1) (by decide) (by decide) ?_
    show own_At p e below m s₁ 10 #[.val (.long p1), .second, .unset, .unset] [] t
    refine XS.lloadN X0.here hx rfl (hb hby d_method_2_code_10) rfl ?_
    show own_At p e below m s₁ 11 #[.val (.long p1), .second, .unset, .unset] [(.long p1)] t
    refine XS.lconst X0.here hx rfl (hb hby d_method_2_code_11) ?_
    show own_At p e below m s₁ 12 #[.val (.long p1), .second, .unset, .unset] [(.long (1 : Int64)), (.long p1)] t
    refine XS.ladd X0.here hx rfl (hb hby d_method_2_code_12) rfl ?_
    show own_At p e below m s₁ 13 #[.val (.long p1), .second, .unset, .unset] [(.long (p1 + (1 : Int64)))] t
    refine XS.lstoreN X0.here hx rfl (hb hby d_method_2_code_13) rfl (l' := #[.val (.long p1), .second, .val (.long (p1 + (1 : Int64))), .second]) rfl ?_
    show own_At p e below m s₁ 14 #[.val (.long p1), .second, .val (.long (p1 + (1 : Int64))), .second] [] t
    refine XS.lloadN X0.here hx rfl (hb hby d_method_2_code_14) rfl ?_
    show own_At p e below m s₁ 15 #[.val (.long p1), .second, .val (.long (p1 + (1 : Int64))), .second] [(.long (p1 + (1 : Int64)))] t
    refine X0.ldc2J hx hown (mvT hZ (own_w hw 66 rfl)) rfl (hb hby d_method_2_code_15) ?_
    show own_At p e below m s₁ 18 #[.val (.long p1), .second, .val (.long (p1 + (1 : Int64))), .second] [(.long (9223372036854 : Int64)), (.long (p1 + (1 : Int64)))] t
    refine XS.lcmp X0.here hx rfl (hb hby d_method_2_code_18) rfl ?_
    show own_At p e below m s₁ 19 #[.val (.long p1), .second, .val (.long (p1 + (1 : Int64))), .second] [(.int (lcmpW (p1 + (1 : Int64)) (9223372036854 : Int64)))] t
    refine XS.ifNo X0.here hx rfl (hb hby d_method_2_code_19) rfl ((if0 _ _).trans (tlt hgt).2.2.2) ?_
    show own_At p e below m s₁ 22 #[.val (.long p1), .second, .val (.long (p1 + (1 : Int64))), .second] [] t
    refine X0.ldc2J hx hown (mvT hZ (own_w hw 45 rfl)) rfl (hb hby d_method_2_code_22) ?_
    show own_At p e below m s₁ 25 #[.val (.long p1), .second, .val (.long (p1 + (1 : Int64))), .second] [(.long (9223372036854775807 : Int64))] t
    exact k
  obtain ⟨fs, hr, hrun, hended, hW, hsame⟩ := X0.leave (v := some (.long (9223372036854775807 : Int64))) (fun h => by rw [Bd.returns] at h; cases h)
  refine hNG ⟨_, _, k1 _ ?_, hrun, hended, _, _, rfl, ?_, ⟨_, rfl⟩, hW, hsame.mono (by decide) (by decide)⟩
  · exact retOut X0 hx (t := .long) Bd.returns rfl (Or.inr (Or.inl ⟨rfl, rfl, _, rfl⟩)) (hb hby d_method_2_code_25) hr
  · show Q_xp_t Z p1 a_TRUE a_MILLISECONDS a_MILLISECONDS_name a_FALSE h0 n0 _ s₁.heap _
    rw [e0]
    exact ⟨rfl, N0, rfl⟩
theorem ef_xp_f (m : MethodId) (x0 : Int64)  : entryFrame m #[(.long x0)] 4 = mkF m 0 #[.val (.long x0), .second, .unset, .unset] [] := by first | (simp [entryFrame, mkF, argsToLocals, Value.category]; done) | rfl
theorem d_method_2_code_26 : decode method_2_code 26 = .ok (.lload_n 2, 1) := by decide +kernel
theorem d_method_2_code_27 : decode method_2_code 27 = .ok (.ldc2_w 13, 3) := by decide +kernel
theorem d_method_2_code_30 : decode method_2_code 30 = .ok (.lmul, 1) := by decide +kernel
theorem d_method_2_code_31 : decode method_2_code 31 = .ok (.lreturn, 1) := by decide +kernel
def Q_xp_f (Z : State) (p1 : Int64) (a_TRUE : Addr) (a_MILLISECONDS : Addr) (a_MILLISECONDS_name : Addr) (a_FALSE : Addr) (h0 : Heap) (n0 : Nat) (v : Option Value) (h : Heap) (L : List Loc) : Prop := v = some (.long ((p1 + (1 : Int64)) * (1000000 : Int64))) ∧ Fr n0 L ∧ h = h0
set_option maxRecDepth 65536 in
set_option maxHeartbeats 40000000 in
theorem rm_xp_f (l : Launch) (Z : State) (a0 : Array Value) (hw : ∀ d ∈ tables_1, d.before a0 Z = true) (ws : List Jvm.Cond) (p1 : Int64) (a_TRUE : Addr) (a_MILLISECONDS : Addr) (a_MILLISECONDS_name : Addr) (a_FALSE : Addr) (h0 : Heap) (n0 : Nat) (O0 : Old Z n0 h0) (hE : EV Z a_TRUE a_MILLISECONDS a_MILLISECONDS_name a_FALSE) (hlt : ¬ ((lcmpW p1 (0 : Int64)) < (0 : Int32))) (hgt : ¬ ((0 : Int32) < (lcmpW (p1 + (1 : Int64)) (9223372036854 : Int64)))) :
    MetFree l own_m8 (head1 (Jvm.Cond.code own_m8 method_2_code 4 (some .long) :: ws) ({ frames := 0, cells := 0, slots := 0, locals := 0 } : Room)) (fun a U => a = #[(.long p1)] ∧ Z.Warmed39 U.vm ∧ U.heap = h0) (fun _ _ _ _ _ => True) (fun _ U o U' => ∃ v L, o = .returned v ∧ Q_xp_f Z p1 a_TRUE a_MILLISECONDS a_MILLISECONDS_name a_FALSE h0 n0 v U'.heap L ∧ FrameEnd U o U' L ({ frames := 0, cells := 0, slots := 0, locals := 0 } : Room).cells ({ frames := 0, cells := 0, slots := 0, locals := 0 } : Room).slots) := by
  refine MetFree.of_bodySF (plainFor_of_name pn_com_example_plus1_plus1_TakeOfPinLaw) hisR ?_
  intro p e s m args below meth c s₁ Bd hml0 hP hK
  obtain ⟨rfl, hZ, hh⟩ := hP
  have hx := Bd.exec
  have hby := Bd.bytes
  have hml : c.maxLocals = 4 := hml0
  have hown : s.vm.findClass "com/example/plus1/plus1/TakeOfPinLaw" = some m.cls := findClass_of_methodNamed Bd.named
  have hnm := (name_of_methodNamed Bd.named Bd.method).1
  have X0 : Stand p l e ({ frames := 0, cells := 0, slots := 0, locals := 0 } : Room) s m #[(.long p1)] below meth c s₁ [] 0 0 := Stand.of_body Bd
  have e0 : s₁.heap = h0 := by rw [← hh, Bd.state]; rfl
  have N0 := Fr.nil n0
  refine Classical.byContradiction fun hNG => ?_
  have K0 := Keep.refl h0 []
  have k0 : ∀ t, own_At p e below m s₁ 0 #[.val (.long p1), .second, .unset, .unset] [] t → own_En p e below m s₁ #[(.long p1)] 4 t := fun t k => castTop (ef_xp_f m p1 ) k
  obtain ⟨S_TRUE, E_TRUE, F_TRUE_value, S_MILLISECONDS, E_MILLISECONDS, F_MILLISECONDS_name, E_MILLISECONDS_name, F_MILLISECONDS_ordinal, F_MILLISECONDS_scale, F_MILLISECONDS_maxNanos, F_MILLISECONDS_microRatio, F_MILLISECONDS_maxMicros, F_MILLISECONDS_milliRatio, F_MILLISECONDS_maxMillis, F_MILLISECONDS_secRatio, F_MILLISECONDS_maxSecs, S_FALSE, E_FALSE, F_FALSE_value⟩ := (id hE : EV Z a_TRUE a_MILLISECONDS a_MILLISECONDS_name a_FALSE)
  have k1 : ∀ t, own_At p e below m s₁ 31 #[.val (.long p1), .second, .val (.long (p1 + (1 : Int64))), .second] [(.long ((p1 + (1 : Int64)) * (1000000 : Int64)))] t → own_En p e below m s₁ #[(.long p1)] 4 t := by
    intro t k
    refine k0 t ?_
    refine XS.lloadN X0.here hx rfl (hb hby d_method_2_code_0) rfl ?_
    show own_At p e below m s₁ 1 #[.val (.long p1), .second, .unset, .unset] [(.long p1)] t
    refine XS.lconst X0.here hx rfl (hb hby d_method_2_code_1) ?_
    show own_At p e below m s₁ 2 #[.val (.long p1), .second, .unset, .unset] [(.long (0 : Int64)), (.long p1)] t
    refine XS.lcmp X0.here hx rfl (hb hby d_method_2_code_2) rfl ?_
    show own_At p e below m s₁ 3 #[.val (.long p1), .second, .unset, .unset] [(.int (lcmpW p1 (0 : Int64)))] t
    refine XS.ifYes X0.here hx rfl (pc0 := 3) (pc' := 10) rfl (hb hby d_method_2_code_3) rfl ((if0 _ _).trans (flt hlt).2.1) (by decide) (by decide) ?_
    show own_At p e below m s₁ 10 #[.val (.long p1), .second, .unset, .unset] [] t
    refine XS.lloadN X0.here hx rfl (hb hby d_method_2_code_10) rfl ?_
    show own_At p e below m s₁ 11 #[.val (.long p1), .second, .unset, .unset] [(.long p1)] t
    refine XS.lconst X0.here hx rfl (hb hby d_method_2_code_11) ?_
    show own_At p e below m s₁ 12 #[.val (.long p1), .second, .unset, .unset] [(.long (1 : Int64)), (.long p1)] t
    refine XS.ladd X0.here hx rfl (hb hby d_method_2_code_12) rfl ?_
    show own_At p e below m s₁ 13 #[.val (.long p1), .second, .unset, .unset] [(.long (p1 + (1 : Int64)))] t
    refine XS.lstoreN X0.here hx rfl (hb hby d_method_2_code_13) rfl (l' := #[.val (.long p1), .second, .val (.long (p1 + (1 : Int64))), .second]) rfl ?_
    show own_At p e below m s₁ 14 #[.val (.long p1), .second, .val (.long (p1 + (1 : Int64))), .second] [] t
    refine XS.lloadN X0.here hx rfl (hb hby d_method_2_code_14) rfl ?_
    show own_At p e below m s₁ 15 #[.val (.long p1), .second, .val (.long (p1 + (1 : Int64))), .second] [(.long (p1 + (1 : Int64)))] t
    refine X0.ldc2J hx hown (mvT hZ (own_w hw 66 rfl)) rfl (hb hby d_method_2_code_15) ?_
    show own_At p e below m s₁ 18 #[.val (.long p1), .second, .val (.long (p1 + (1 : Int64))), .second] [(.long (9223372036854 : Int64)), (.long (p1 + (1 : Int64)))] t
    refine XS.lcmp X0.here hx rfl (hb hby d_method_2_code_18) rfl ?_
    show own_At p e below m s₁ 19 #[.val (.long p1), .second, .val (.long (p1 + (1 : Int64))), .second] [(.int (lcmpW (p1 + (1 : Int64)) (9223372036854 : Int64)))] t
    refine XS.ifYes X0.here hx rfl (pc0 := 19) (pc' := 26) rfl (hb hby d_method_2_code_19) rfl ((if0 _ _).trans (flt hgt).2.2.2) (by decide) (by decide) ?_
    show own_At p e below m s₁ 26 #[.val (.long p1), .second, .val (.long (p1 + (1 : Int64))), .second] [] t
    refine XS.lloadN X0.here hx rfl (hb hby d_method_2_code_26) rfl ?_
    show own_At p e below m s₁ 27 #[.val (.long p1), .second, .val (.long (p1 + (1 : Int64))), .second] [(.long (p1 + (1 : Int64)))] t
    refine X0.ldc2J hx hown (mvT hZ (own_w hw 67 rfl)) rfl (hb hby d_method_2_code_27) ?_
    show own_At p e below m s₁ 30 #[.val (.long p1), .second, .val (.long (p1 + (1 : Int64))), .second] [(.long (1000000 : Int64)), (.long (p1 + (1 : Int64)))] t
    refine XS.lmul X0.here hx rfl (hb hby d_method_2_code_30) rfl ?_
    show own_At p e below m s₁ 31 #[.val (.long p1), .second, .val (.long (p1 + (1 : Int64))), .second] [(.long ((p1 + (1 : Int64)) * (1000000 : Int64)))] t
    exact k
  obtain ⟨fs, hr, hrun, hended, hW, hsame⟩ := X0.leave (v := some (.long ((p1 + (1 : Int64)) * (1000000 : Int64)))) (fun h => by rw [Bd.returns] at h; cases h)
  refine hNG ⟨_, _, k1 _ ?_, hrun, hended, _, _, rfl, ?_, ⟨_, rfl⟩, hW, hsame.mono (by decide) (by decide)⟩
  · exact retOut X0 hx (t := .long) Bd.returns rfl (Or.inr (Or.inl ⟨rfl, rfl, _, rfl⟩)) (hb hby d_method_2_code_31) hr
  · show Q_xp_f Z p1 a_TRUE a_MILLISECONDS a_MILLISECONDS_name a_FALSE h0 n0 _ s₁.heap _
    rw [e0]
    exact ⟨rfl, N0, rfl⟩
theorem ef_law (m : MethodId) (x0 : Int64) (x1 : Int64)  : entryFrame m #[(.long x0), (.long x1)] maxLocals = mkF m 0 #[.val (.long x0), .second, .val (.long x1), .second, .unset, .unset, .unset, .unset, .unset, .unset] [] := by first | (simp [entryFrame, mkF, argsToLocals, Value.category, maxLocals]; done) | rfl
theorem pd__JJ_Lcom_example_plus1_plus1_Take_ : parseMethodDescriptor "(JJ)Lcom/example/plus1/plus1/Take;" = some ⟨[.long, .long], some (.object "com/example/plus1/plus1/Take")⟩ := by decide +kernel
theorem pd___J : parseMethodDescriptor "()J" = some ⟨[], some .long⟩ := by decide +kernel
theorem pd___Ljava_lang_Boolean_ : parseMethodDescriptor "()Ljava/lang/Boolean;" = some ⟨[], some (.object "java/lang/Boolean")⟩ := by decide +kernel
theorem ef_f3 (m : MethodId) (x0 : Addr)  : entryFrame m #[(.ref x0)] 1 = mkF m 0 #[.val (.ref x0)] [] := by first | (simp [entryFrame, mkF, argsToLocals, Value.category]; done) | rfl
theorem d_jdk_2055_method_4_code_0 : decode jdk_2055_method_4_code 0 = .ok (.aload_n 0, 1) := by decide +kernel
theorem d_jdk_2055_method_4_code_1 : decode jdk_2055_method_4_code 1 = .ok (.getfield 7, 3) := by decide +kernel
theorem d_jdk_2055_method_4_code_4 : decode jdk_2055_method_4_code 4 = .ok (.ireturn, 1) := by decide +kernel
abbrev own_m9 : MethodName := ⟨"java/lang/Boolean", "booleanValue", "()Z"⟩
def Q_f3 (Z : State) (a_TRUE : Addr) (a_MILLISECONDS : Addr) (a_MILLISECONDS_name : Addr) (a_FALSE : Addr) (h0 : Heap) (n0 : Nat) (v : Option Value) (h : Heap) (L : List Loc) : Prop := v = some (.int (1 : Int32)) ∧ Fr n0 L ∧ h = h0
set_option maxRecDepth 65536 in
set_option maxHeartbeats 40000000 in
theorem rm_f3 (l : Launch) (Z : State) (a0 : Array Value) (hw : ∀ d ∈ tables_1, d.before a0 Z = true) (ws : List Jvm.Cond) (a_TRUE : Addr) (a_MILLISECONDS : Addr) (a_MILLISECONDS_name : Addr) (a_FALSE : Addr) (h0 : Heap) (n0 : Nat) (O0 : Old Z n0 h0) (hE : EV Z a_TRUE a_MILLISECONDS a_MILLISECONDS_name a_FALSE) :
    MetFree l own_m9 (head1 (Jvm.Cond.code own_m9 jdk_2055_method_4_code 1 (some .boolean) :: ws) ({ frames := 0, cells := 0, slots := 0, locals := 0 } : Room)) (fun a U => a = #[(.ref a_TRUE)] ∧ Z.Warmed39 U.vm ∧ U.heap = h0) (fun _ _ _ _ _ => True) (fun _ U o U' => ∃ v L, o = .returned v ∧ Q_f3 Z a_TRUE a_MILLISECONDS a_MILLISECONDS_name a_FALSE h0 n0 v U'.heap L ∧ FrameEnd U o U' L ({ frames := 0, cells := 0, slots := 0, locals := 0 } : Room).cells ({ frames := 0, cells := 0, slots := 0, locals := 0 } : Room).slots) := by
  refine MetFree.of_bodySF (plainFor_of_name pn_java_lang_Boolean) hisR ?_
  intro p e s m args below meth c s₁ Bd hml0 hP hK
  obtain ⟨rfl, hZ, hh⟩ := hP
  have hx := Bd.exec
  have hby := Bd.bytes
  have hml : c.maxLocals = 1 := hml0
  have hown : s.vm.findClass "java/lang/Boolean" = some m.cls := findClass_of_methodNamed Bd.named
  have hnm := (name_of_methodNamed Bd.named Bd.method).1
  have X0 : Stand p l e ({ frames := 0, cells := 0, slots := 0, locals := 0 } : Room) s m #[(.ref a_TRUE)] below meth c s₁ [] 0 0 := Stand.of_body Bd
  have e0 : s₁.heap = h0 := by rw [← hh, Bd.state]; rfl
  have N0 := Fr.nil n0
  refine Classical.byContradiction fun hNG => ?_
  have K0 := Keep.refl h0 []
  have k0 : ∀ t, own_At p e below m s₁ 0 #[.val (.ref a_TRUE)] [] t → own_En p e below m s₁ #[(.ref a_TRUE)] 1 t := fun t k => castTop (ef_f3 m a_TRUE ) k
  obtain ⟨S_TRUE, E_TRUE, F_TRUE_value, S_MILLISECONDS, E_MILLISECONDS, F_MILLISECONDS_name, E_MILLISECONDS_name, F_MILLISECONDS_ordinal, F_MILLISECONDS_scale, F_MILLISECONDS_maxNanos, F_MILLISECONDS_microRatio, F_MILLISECONDS_maxMicros, F_MILLISECONDS_milliRatio, F_MILLISECONDS_maxMillis, F_MILLISECONDS_secRatio, F_MILLISECONDS_maxSecs, S_FALSE, E_FALSE, F_FALSE_value⟩ := (id hE : EV Z a_TRUE a_MILLISECONDS a_MILLISECONDS_name a_FALSE)
  obtain ⟨T1, X1, e1, st1⟩ := getF X0 hx hZ hown (host := "") (Or.inl (own_w hw 43 rfl)) Via.refl e0 (F_TRUE_value.ext O0.2) (g := (mkF m 1 #[.val (.ref a_TRUE)] [(.ref a_TRUE)])) rfl rfl (hb hby d_jdk_2055_method_4_code_1)
  have k2 : ∀ t, own_At p e below m T1 4 #[.val (.ref a_TRUE)] [(.int (1 : Int32))] t → own_En p e below m s₁ #[(.ref a_TRUE)] 1 t := by
    intro t k
    refine k0 t ?_
    refine XS.aloadN X0.here hx rfl (hb hby d_jdk_2055_method_4_code_0) rfl rfl ?_
    show own_At p e below m s₁ 1 #[.val (.ref a_TRUE)] [(.ref a_TRUE)] t
    refine st1 _ ?_
    show own_At p e below m T1 4 #[.val (.ref a_TRUE)] [(.int (1 : Int32))] t
    exact k
  obtain ⟨fs, hr, hrun, hended, hW, hsame⟩ := X1.leave (v := some (.int (1 : Int32))) (fun h => by rw [Bd.returns] at h; cases h)
  refine hNG ⟨_, _, k2 _ ?_, hrun, hended, _, _, rfl, ?_, ⟨_, rfl⟩, hW, hsame.mono (by decide) (by decide)⟩
  · exact retN X1 hx (t := .boolean) Bd.returns (by simp) (hb hby d_jdk_2055_method_4_code_4) hr
  · show Q_f3 Z a_TRUE a_MILLISECONDS a_MILLISECONDS_name a_FALSE h0 n0 _ T1.heap _
    rw [e1]
    exact ⟨rfl, N0, rfl⟩
theorem pd___Z : parseMethodDescriptor "()Z" = some ⟨[], some .boolean⟩ := by decide +kernel
theorem ef_f4 (m : MethodId) (x0 : Addr)  : entryFrame m #[(.ref x0)] 1 = mkF m 0 #[.val (.ref x0)] [] := by first | (simp [entryFrame, mkF, argsToLocals, Value.category]; done) | rfl
def Q_f4 (Z : State) (a_TRUE : Addr) (a_MILLISECONDS : Addr) (a_MILLISECONDS_name : Addr) (a_FALSE : Addr) (h0 : Heap) (n0 : Nat) (v : Option Value) (h : Heap) (L : List Loc) : Prop := v = some (.int (0 : Int32)) ∧ Fr n0 L ∧ h = h0
set_option maxRecDepth 65536 in
set_option maxHeartbeats 40000000 in
theorem rm_f4 (l : Launch) (Z : State) (a0 : Array Value) (hw : ∀ d ∈ tables_1, d.before a0 Z = true) (ws : List Jvm.Cond) (a_TRUE : Addr) (a_MILLISECONDS : Addr) (a_MILLISECONDS_name : Addr) (a_FALSE : Addr) (h0 : Heap) (n0 : Nat) (O0 : Old Z n0 h0) (hE : EV Z a_TRUE a_MILLISECONDS a_MILLISECONDS_name a_FALSE) :
    MetFree l own_m9 (head1 (Jvm.Cond.code own_m9 jdk_2055_method_4_code 1 (some .boolean) :: ws) ({ frames := 0, cells := 0, slots := 0, locals := 0 } : Room)) (fun a U => a = #[(.ref a_FALSE)] ∧ Z.Warmed39 U.vm ∧ U.heap = h0) (fun _ _ _ _ _ => True) (fun _ U o U' => ∃ v L, o = .returned v ∧ Q_f4 Z a_TRUE a_MILLISECONDS a_MILLISECONDS_name a_FALSE h0 n0 v U'.heap L ∧ FrameEnd U o U' L ({ frames := 0, cells := 0, slots := 0, locals := 0 } : Room).cells ({ frames := 0, cells := 0, slots := 0, locals := 0 } : Room).slots) := by
  refine MetFree.of_bodySF (plainFor_of_name pn_java_lang_Boolean) hisR ?_
  intro p e s m args below meth c s₁ Bd hml0 hP hK
  obtain ⟨rfl, hZ, hh⟩ := hP
  have hx := Bd.exec
  have hby := Bd.bytes
  have hml : c.maxLocals = 1 := hml0
  have hown : s.vm.findClass "java/lang/Boolean" = some m.cls := findClass_of_methodNamed Bd.named
  have hnm := (name_of_methodNamed Bd.named Bd.method).1
  have X0 : Stand p l e ({ frames := 0, cells := 0, slots := 0, locals := 0 } : Room) s m #[(.ref a_FALSE)] below meth c s₁ [] 0 0 := Stand.of_body Bd
  have e0 : s₁.heap = h0 := by rw [← hh, Bd.state]; rfl
  have N0 := Fr.nil n0
  refine Classical.byContradiction fun hNG => ?_
  have K0 := Keep.refl h0 []
  have k0 : ∀ t, own_At p e below m s₁ 0 #[.val (.ref a_FALSE)] [] t → own_En p e below m s₁ #[(.ref a_FALSE)] 1 t := fun t k => castTop (ef_f4 m a_FALSE ) k
  obtain ⟨S_TRUE, E_TRUE, F_TRUE_value, S_MILLISECONDS, E_MILLISECONDS, F_MILLISECONDS_name, E_MILLISECONDS_name, F_MILLISECONDS_ordinal, F_MILLISECONDS_scale, F_MILLISECONDS_maxNanos, F_MILLISECONDS_microRatio, F_MILLISECONDS_maxMicros, F_MILLISECONDS_milliRatio, F_MILLISECONDS_maxMillis, F_MILLISECONDS_secRatio, F_MILLISECONDS_maxSecs, S_FALSE, E_FALSE, F_FALSE_value⟩ := (id hE : EV Z a_TRUE a_MILLISECONDS a_MILLISECONDS_name a_FALSE)
  obtain ⟨T1, X1, e1, st1⟩ := getF X0 hx hZ hown (host := "") (Or.inl (own_w hw 43 rfl)) Via.refl e0 (F_FALSE_value.ext O0.2) (g := (mkF m 1 #[.val (.ref a_FALSE)] [(.ref a_FALSE)])) rfl rfl (hb hby d_jdk_2055_method_4_code_1)
  have k2 : ∀ t, own_At p e below m T1 4 #[.val (.ref a_FALSE)] [(.int (0 : Int32))] t → own_En p e below m s₁ #[(.ref a_FALSE)] 1 t := by
    intro t k
    refine k0 t ?_
    refine XS.aloadN X0.here hx rfl (hb hby d_jdk_2055_method_4_code_0) rfl rfl ?_
    show own_At p e below m s₁ 1 #[.val (.ref a_FALSE)] [(.ref a_FALSE)] t
    refine st1 _ ?_
    show own_At p e below m T1 4 #[.val (.ref a_FALSE)] [(.int (0 : Int32))] t
    exact k
  obtain ⟨fs, hr, hrun, hended, hW, hsame⟩ := X1.leave (v := some (.int (0 : Int32))) (fun h => by rw [Bd.returns] at h; cases h)
  refine hNG ⟨_, _, k2 _ ?_, hrun, hended, _, _, rfl, ?_, ⟨_, rfl⟩, hW, hsame.mono (by decide) (by decide)⟩
  · exact retN X1 hx (t := .boolean) Bd.returns (by simp) (hb hby d_jdk_2055_method_4_code_4) hr
  · show Q_f4 Z a_TRUE a_MILLISECONDS a_MILLISECONDS_name a_FALSE h0 n0 _ T1.heap _
    rw [e1]
    exact ⟨rfl, N0, rfl⟩
def Q_law (Z : State) (p0 : Int64) (p1 : Int64) (a_TRUE : Addr) (a_MILLISECONDS : Addr) (a_MILLISECONDS_name : Addr) (a_FALSE : Addr) (h0 : Heap) (n0 : Nat) (v : Option Value) (h : Heap) (L : List Loc) : Prop := v = some (.int (1 : Int32)) ∧ Fr n0 L
set_option maxRecDepth 65536 in
set_option maxHeartbeats 40000000 in
theorem rm_law (l : Launch) (Z : State) (a0 : Array Value) (hw : ∀ d ∈ tables_1, d.before a0 Z = true) (ws : List Jvm.Cond) (p0 : Int64) (p1 : Int64) (a_TRUE : Addr) (a_MILLISECONDS : Addr) (a_MILLISECONDS_name : Addr) (a_FALSE : Addr) (h0 : Heap) (n0 : Nat) (O0 : Old Z n0 h0) (hE : EV Z a_TRUE a_MILLISECONDS a_MILLISECONDS_name a_FALSE) :
    MetFree l x (head1 (Jvm.Cond.code x code maxLocals ret :: ws) room_1) (fun a U => a = #[(.long p0), (.long p1)] ∧ Z.Warmed39 U.vm ∧ U.heap = h0) (fun _ _ _ _ _ => True) (fun _ U o U' => ∃ v L, o = .returned v ∧ Q_law Z p0 p1 a_TRUE a_MILLISECONDS a_MILLISECONDS_name a_FALSE h0 n0 v U'.heap L ∧ FrameEnd U o U' L 1 3) := by
  refine MetFree.of_bodySF (plainFor_of_name pn_com_example_plus1_plus1_TakeOfPinLaw) hisR ?_
  intro p e s m args below meth c s₁ Bd hml0 hP hK
  obtain ⟨rfl, hZ, hh⟩ := hP
  have hx := Bd.exec
  have hby := Bd.bytes
  have hml : c.maxLocals = 10 := hml0
  have hown : s.vm.findClass "com/example/plus1/plus1/TakeOfPinLaw" = some m.cls := findClass_of_methodNamed Bd.named
  have hnm := (name_of_methodNamed Bd.named Bd.method).1
  have X0 : Stand p l e room_1 s m #[(.long p0), (.long p1)] below meth c s₁ [] 0 0 := Stand.of_body Bd
  have e0 : s₁.heap = h0 := by rw [← hh, Bd.state]; rfl
  have N0 := Fr.nil n0
  refine Classical.byContradiction fun hNG => ?_
  have K0 := Keep.refl h0 []
  have k0 : ∀ t, own_At p e below m s₁ 0 #[.val (.long p0), .second, .val (.long p1), .second, .unset, .unset, .unset, .unset, .unset, .unset] [] t → own_En p e below m s₁ #[(.long p0), (.long p1)] maxLocals t := fun t k => castTop (ef_law m p0 p1 ) k
  obtain ⟨S_TRUE, E_TRUE, F_TRUE_value, S_MILLISECONDS, E_MILLISECONDS, F_MILLISECONDS_name, E_MILLISECONDS_name, F_MILLISECONDS_ordinal, F_MILLISECONDS_scale, F_MILLISECONDS_maxNanos, F_MILLISECONDS_microRatio, F_MILLISECONDS_maxMicros, F_MILLISECONDS_milliRatio, F_MILLISECONDS_maxMillis, F_MILLISECONDS_secRatio, F_MILLISECONDS_maxSecs, S_FALSE, E_FALSE, F_FALSE_value⟩ := (id hE : EV Z a_TRUE a_MILLISECONDS a_MILLISECONDS_name a_FALSE)
  obtain ⟨_, _, ⟨T1, L1, k1, n1⟩, -, X1, ⟨Lc1, hQ1, l1, y1, z1⟩, st1⟩ := Jvm.LawKit.callS X0 hx (y := own_m2) hown (mvT hZ (own_w hw 0 rfl)) (mvT hZ (own_w hw 1 rfl)) (mvT hZ (own_w hw 2 rfl)) (mvT hZ (own_w hw 3 rfl)) (by decide) (backOf (W := 0) (rm_of l Z a0 hw [] p0 p1 _ _ _ _ h0 n0 O0 hE  ) hZ (own_w hw 3 rfl) (own_w hw 2 rfl) (by decide) (by decide)) (g := (mkF m 2 #[.val (.long p0), .second, .val (.long p1), .second, .unset, .unset, .unset, .unset, .unset, .unset] [(.long p1), (.long p0)])) rfl (by rw [hml]; rfl) (argsL := [(.long p0), (.long p1)]) (rest := []) (lenOf pd__JJ_Lcom_example_plus1_plus1_Take_ rfl) rfl (by show 2 * 0 + _ ≤ _; exact Nat.le_of_eq rfl) (hb hby at_2) (fun _ _ => ⟨rfl, e0, (by decide : 0 + 1 ≤ _), (by decide : 0 + 3 ≤ _)⟩)
  dsimp only [Pt.U, Pt.locs, Pt.cells, Pt.slots] at X1 l1 y1 z1 st1 hQ1
  subst l1 y1 z1
  obtain ⟨b1, rfl, N1q, O1, Kc1, g_b1, gs_b1, F1_0, F1_1, F1_2, F1_3⟩ := hQ1
  have N1 := Fr.app N0 N1q
  have K1 := K0.trans Kc1 (fun x hx => nomatch hx)
  have s_b1 := Nat.le_trans K0.1 gs_b1
  have lt_b1 := F1_0.lt
  obtain ⟨cq2, kq2, q2a, q2b, q2c⟩ := isOf hZ rfl F1_0
  obtain ⟨_, _, ⟨T2, L2, k2, n2⟩, -, X2, ⟨Lc2, hQ2, l2, y2, z2⟩, st2⟩ := X1.virtualBack hx (y := own_m3) (z := own_m3) hown (mvT hZ (own_w hw 23 rfl)) (mvT hZ (own_w hw 24 rfl)) (notFace_of_selects (args := #[]) (mvT hZ (own_w hw 26 rfl))) (mvT hZ (own_w hw 26 rfl)) (mvT hZ (own_w hw 25 rfl)) (by decide) (backOf (W := 0) (rm_holds l Z a0 hw [] b1 p0 _ _ _ _ T1.heap n0 O1 hE F1_1 ) hZ (own_w hw 27 rfl) (own_w hw 2 rfl) (by decide) (by decide)) q2a q2c (g := (mkF m 9 #[.val (.long p0), .second, .val (.long p1), .second, .val (.ref b1), .unset, .unset, .unset, .unset, .unset] [(.ref b1)])) rfl (by rw [hml]; rfl) (Steps.refl _) (argsL := []) (rest := []) (lenOf pd___J rfl) rfl (by show 2 * 0 + _ ≤ _; exact Nat.le_of_eq rfl) (hb hby at_9) (fun _ _ => ⟨rfl, rfl, (by decide : 1 + 0 ≤ _), (by decide : 3 + 0 ≤ _)⟩)
  dsimp only [Pt.U, Pt.locs, Pt.cells, Pt.slots] at X2 l2 y2 z2 st2 hQ2
  subst l2 y2 z2
  obtain ⟨rfl, N2q, hp2⟩ := hQ2
  have N2 := Fr.app N1 N2q
  have k3 : ∀ t, own_At p e below m T2 26 #[.val (.long p0), .second, .val (.long p1), .second, .val (.ref b1), .val (.int (1 : Int32)), .unset, .unset, .unset, .unset] [(.ref b1)] t → own_En p e below m s₁ #[(.long p0), (.long p1)] maxLocals t := by
    intro t k
    refine k0 t ?_
    refine XS.lloadN X0.here hx rfl (hb hby at_0) rfl ?_
    show own_At p e below m s₁ 1 #[.val (.long p0), .second, .val (.long p1), .second, .unset, .unset, .unset, .unset, .unset, .unset] [(.long p0)] t
    refine XS.lloadN X0.here hx rfl (hb hby at_1) rfl ?_
    show own_At p e below m s₁ 2 #[.val (.long p0), .second, .val (.long p1), .second, .unset, .unset, .unset, .unset, .unset, .unset] [(.long p1), (.long p0)] t
    refine st1 _ ?_
    show own_At p e below m T1 5 #[.val (.long p0), .second, .val (.long p1), .second, .unset, .unset, .unset, .unset, .unset, .unset] [(.ref b1)] t
    refine XS.astore X1.here hx rfl (hb hby at_5) rfl rfl (l' := #[.val (.long p0), .second, .val (.long p1), .second, .val (.ref b1), .unset, .unset, .unset, .unset, .unset]) rfl ?_
    show own_At p e below m T1 7 #[.val (.long p0), .second, .val (.long p1), .second, .val (.ref b1), .unset, .unset, .unset, .unset, .unset] [] t
    refine XS.aload X1.here hx rfl (hb hby at_7) rfl rfl ?_
    show own_At p e below m T1 9 #[.val (.long p0), .second, .val (.long p1), .second, .val (.ref b1), .unset, .unset, .unset, .unset, .unset] [(.ref b1)] t
    refine st2.trans ?_
    show own_At p e below m T2 12 #[.val (.long p0), .second, .val (.long p1), .second, .val (.ref b1), .unset, .unset, .unset, .unset, .unset] [(.long p0)] t
    refine XS.lloadN X2.here hx rfl (hb hby at_12) rfl ?_
    show own_At p e below m T2 13 #[.val (.long p0), .second, .val (.long p1), .second, .val (.ref b1), .unset, .unset, .unset, .unset, .unset] [(.long p0), (.long p0)] t
    refine XS.lcmp X2.here hx rfl (hb hby at_13) rfl ?_
    show own_At p e below m T2 14 #[.val (.long p0), .second, .val (.long p1), .second, .val (.ref b1), .unset, .unset, .unset, .unset, .unset] [(.int (lcmpW p0 p0))] t
    refine XS.ifNo X2.here hx rfl (hb hby at_14) rfl ((if0 _ _).trans (teq ((lw_eq _ _).mpr rfl)).2) ?_
    show own_At p e below m T2 17 #[.val (.long p0), .second, .val (.long p1), .second, .val (.ref b1), .unset, .unset, .unset, .unset, .unset] [] t
    refine XS.iconst X2.here hx rfl (hb hby at_17) ?_
    show own_At p e below m T2 18 #[.val (.long p0), .second, .val (.long p1), .second, .val (.ref b1), .unset, .unset, .unset, .unset, .unset] [(.int (1 : Int32))] t
    refine XS.goto X2.here hx rfl (pc0 := 18) (pc' := 22) rfl (hb hby at_18) (by decide) (by decide) ?_
    show own_At p e below m T2 22 #[.val (.long p0), .second, .val (.long p1), .second, .val (.ref b1), .unset, .unset, .unset, .unset, .unset] [(.int (1 : Int32))] t
    refine XS.istore X2.here hx rfl (hb hby at_22) rfl (l' := #[.val (.long p0), .second, .val (.long p1), .second, .val (.ref b1), .val (.int (1 : Int32)), .unset, .unset, .unset, .unset]) rfl ?_
    show own_At p e below m T2 24 #[.val (.long p0), .second, .val (.long p1), .second, .val (.ref b1), .val (.int (1 : Int32)), .unset, .unset, .unset, .unset] [] t
    refine XS.aload X2.here hx rfl (hb hby at_24) rfl rfl ?_
    show own_At p e below m T2 26 #[.val (.long p0), .second, .val (.long p1), .second, .val (.ref b1), .val (.int (1 : Int32)), .unset, .unset, .unset, .unset] [(.ref b1)] t
    exact k
  have J4 : ∀ (T4 : State) (locs4 : List Loc) (X4 : Stand p l e room_1 s m #[(.long p0), (.long p1)] below meth c T4 locs4 1 3) (e4 : T4.heap = T1.heap) (N4 : Fr n0 locs4) (k4 : ∀ t, own_At p e below m T4 50 #[.val (.long p0), .second, .val (.long p1), .second, .val (.ref b1), .val (.int (1 : Int32)), .val (.int (1 : Int32)), .unset, .unset, .unset] [] t → own_En p e below m s₁ #[(.long p0), (.long p1)] maxLocals t), False := by
    intro T4 locs4 X4 e4 N4 k4
    obtain ⟨cq5, kq5, q5a, q5b, q5c⟩ := isOf hZ e4 F1_0
    obtain ⟨_, _, ⟨T5, L5, k5, n5⟩, -, X5, ⟨Lc5, hQ5, l5, y5, z5⟩, st5⟩ := X4.virtualBack hx (y := own_m5) (z := own_m5) hown (mvT hZ (own_w hw 33 rfl)) (mvT hZ (own_w hw 34 rfl)) (notFace_of_selects (args := #[]) (mvT hZ (own_w hw 36 rfl))) (mvT hZ (own_w hw 36 rfl)) (mvT hZ (own_w hw 35 rfl)) (by decide) (backOf (W := 0) (rm_heldB l Z a0 hw [] b1 (own_held p0 a_TRUE a_FALSE) _ _ _ _ T1.heap n0 O1 hE F1_3 ) hZ (own_w hw 37 rfl) (own_w hw 2 rfl) (by decide) (by decide)) q5a q5c (g := (mkF m 52 #[.val (.long p0), .second, .val (.long p1), .second, .val (.ref b1), .val (.int (1 : Int32)), .val (.int (1 : Int32)), .unset, .unset, .unset] [(.ref b1)])) rfl (by rw [hml]; rfl) (Steps.refl _) (argsL := []) (rest := []) (lenOf pd___Ljava_lang_Boolean_ rfl) rfl (by show 2 * 0 + _ ≤ _; exact Nat.le_of_eq rfl) (hb hby at_52) (fun _ _ => ⟨rfl, e4, (by decide : 1 + 0 ≤ _), (by decide : 3 + 0 ≤ _)⟩)
    dsimp only [Pt.U, Pt.locs, Pt.cells, Pt.slots] at X5 l5 y5 z5 st5 hQ5
    subst l5 y5 z5
    obtain ⟨rfl, N5q, hp5⟩ := hQ5
    have N5 := Fr.app N4 N5q
    have k6 : ∀ t, own_At p e below m T5 57 #[.val (.long p0), .second, .val (.long p1), .second, .val (.ref b1), .val (.int (1 : Int32)), .val (.int (1 : Int32)), .val (.ref (own_held p0 a_TRUE a_FALSE)), .unset, .unset] [] t → own_En p e below m s₁ #[(.long p0), (.long p1)] maxLocals t := by
      intro t k
      refine k4 t ?_
      refine XS.aload X4.here hx rfl (hb hby at_50) rfl rfl ?_
      show own_At p e below m T4 52 #[.val (.long p0), .second, .val (.long p1), .second, .val (.ref b1), .val (.int (1 : Int32)), .val (.int (1 : Int32)), .unset, .unset, .unset] [(.ref b1)] t
      refine st5.trans ?_
      show own_At p e below m T5 55 #[.val (.long p0), .second, .val (.long p1), .second, .val (.ref b1), .val (.int (1 : Int32)), .val (.int (1 : Int32)), .unset, .unset, .unset] [(.ref (own_held p0 a_TRUE a_FALSE))] t
      refine XS.astore X5.here hx rfl (hb hby at_55) rfl rfl (l' := #[.val (.long p0), .second, .val (.long p1), .second, .val (.ref b1), .val (.int (1 : Int32)), .val (.int (1 : Int32)), .val (.ref (own_held p0 a_TRUE a_FALSE)), .unset, .unset]) rfl ?_
      show own_At p e below m T5 57 #[.val (.long p0), .second, .val (.long p1), .second, .val (.ref b1), .val (.int (1 : Int32)), .val (.int (1 : Int32)), .val (.ref (own_held p0 a_TRUE a_FALSE)), .unset, .unset] [] t
      exact k
    have J7 : ∀ (T7 : State) (locs7 : List Loc) (u7_7 : Value) (X7 : Stand p l e room_1 s m #[(.long p0), (.long p1)] below meth c T7 locs7 1 3) (e7 : T7.heap = T1.heap) (N7 : Fr n0 locs7) (k7 : ∀ t, own_At p e below m T7 88 #[.val (.long p0), .second, .val (.long p1), .second, .val (.ref b1), .val (.int (1 : Int32)), .val (.int (1 : Int32)), .val u7_7, .val (.int (1 : Int32)), .unset] [] t → own_En p e below m s₁ #[(.long p0), (.long p1)] maxLocals t), False := by
      intro T7 locs7 u7_7 X7 e7 N7 k7
      have J8 : ∀ (T8 : State) (locs8 : List Loc) (X8 : Stand p l e room_1 s m #[(.long p0), (.long p1)] below meth c T8 locs8 1 3) (e8 : T8.heap = T1.heap) (N8 : Fr n0 locs8) (k8 : ∀ t, own_At p e below m T8 116 #[.val (.long p0), .second, .val (.long p1), .second, .val (.ref b1), .val (.int (1 : Int32)), .val (.int (1 : Int32)), .val u7_7, .val (.int (1 : Int32)), .val (.int (1 : Int32))] [] t → own_En p e below m s₁ #[(.long p0), (.long p1)] maxLocals t), False := by
        intro T8 locs8 X8 e8 N8 k8
        have k9 : ∀ t, own_At p e below m T8 141 #[.val (.long p0), .second, .val (.long p1), .second, .val (.ref b1), .val (.int (1 : Int32)), .val (.int (1 : Int32)), .val u7_7, .val (.int (1 : Int32)), .val (.int (1 : Int32))] [(.int (1 : Int32))] t → own_En p e below m s₁ #[(.long p0), (.long p1)] maxLocals t := by
          intro t k
          refine k8 t ?_
          refine XS.iload X8.here hx rfl (hb hby at_116) rfl ?_
          show own_At p e below m T8 118 #[.val (.long p0), .second, .val (.long p1), .second, .val (.ref b1), .val (.int (1 : Int32)), .val (.int (1 : Int32)), .val u7_7, .val (.int (1 : Int32)), .val (.int (1 : Int32))] [(.int (1 : Int32))] t
          refine XS.ifNo X8.here hx rfl (hb hby at_118) rfl ((if0 _ _).trans (feq (by decide : ¬ ((1 : Int32) = (0 : Int32)))).1) ?_
          show own_At p e below m T8 121 #[.val (.long p0), .second, .val (.long p1), .second, .val (.ref b1), .val (.int (1 : Int32)), .val (.int (1 : Int32)), .val u7_7, .val (.int (1 : Int32)), .val (.int (1 : Int32))] [] t
          refine XS.iload X8.here hx rfl (hb hby at_121) rfl ?_
          show own_At p e below m T8 123 #[.val (.long p0), .second, .val (.long p1), .second, .val (.ref b1), .val (.int (1 : Int32)), .val (.int (1 : Int32)), .val u7_7, .val (.int (1 : Int32)), .val (.int (1 : Int32))] [(.int (1 : Int32))] t
          refine XS.ifNo X8.here hx rfl (hb hby at_123) rfl ((if0 _ _).trans (feq (by decide : ¬ ((1 : Int32) = (0 : Int32)))).1) ?_
          show own_At p e below m T8 126 #[.val (.long p0), .second, .val (.long p1), .second, .val (.ref b1), .val (.int (1 : Int32)), .val (.int (1 : Int32)), .val u7_7, .val (.int (1 : Int32)), .val (.int (1 : Int32))] [] t
          refine XS.iload X8.here hx rfl (hb hby at_126) rfl ?_
          show own_At p e below m T8 128 #[.val (.long p0), .second, .val (.long p1), .second, .val (.ref b1), .val (.int (1 : Int32)), .val (.int (1 : Int32)), .val u7_7, .val (.int (1 : Int32)), .val (.int (1 : Int32))] [(.int (1 : Int32))] t
          refine XS.ifNo X8.here hx rfl (hb hby at_128) rfl ((if0 _ _).trans (feq (by decide : ¬ ((1 : Int32) = (0 : Int32)))).1) ?_
          show own_At p e below m T8 131 #[.val (.long p0), .second, .val (.long p1), .second, .val (.ref b1), .val (.int (1 : Int32)), .val (.int (1 : Int32)), .val u7_7, .val (.int (1 : Int32)), .val (.int (1 : Int32))] [] t
          refine XS.iload X8.here hx rfl (hb hby at_131) rfl ?_
          show own_At p e below m T8 133 #[.val (.long p0), .second, .val (.long p1), .second, .val (.ref b1), .val (.int (1 : Int32)), .val (.int (1 : Int32)), .val u7_7, .val (.int (1 : Int32)), .val (.int (1 : Int32))] [(.int (1 : Int32))] t
          refine XS.ifNo X8.here hx rfl (hb hby at_133) rfl ((if0 _ _).trans (feq (by decide : ¬ ((1 : Int32) = (0 : Int32)))).1) ?_
          show own_At p e below m T8 136 #[.val (.long p0), .second, .val (.long p1), .second, .val (.ref b1), .val (.int (1 : Int32)), .val (.int (1 : Int32)), .val u7_7, .val (.int (1 : Int32)), .val (.int (1 : Int32))] [] t
          refine XS.iconst X8.here hx rfl (hb hby at_136) ?_
          show own_At p e below m T8 137 #[.val (.long p0), .second, .val (.long p1), .second, .val (.ref b1), .val (.int (1 : Int32)), .val (.int (1 : Int32)), .val u7_7, .val (.int (1 : Int32)), .val (.int (1 : Int32))] [(.int (1 : Int32))] t
          refine XS.goto X8.here hx rfl (pc0 := 137) (pc' := 141) rfl (hb hby at_137) (by decide) (by decide) ?_
          show own_At p e below m T8 141 #[.val (.long p0), .second, .val (.long p1), .second, .val (.ref b1), .val (.int (1 : Int32)), .val (.int (1 : Int32)), .val u7_7, .val (.int (1 : Int32)), .val (.int (1 : Int32))] [(.int (1 : Int32))] t
          exact k
        obtain ⟨fs, hr, hrun, hended, hW, hsame⟩ := X8.leave (v := some (.int (1 : Int32))) (fun h => by rw [Bd.returns] at h; cases h)
        refine hNG ⟨_, _, k9 _ ?_, hrun, hended, _, _, rfl, ?_, ⟨_, rfl⟩, hW, hsame.mono (by decide) (by decide)⟩
        · exact retN X8 hx (t := .boolean) Bd.returns (by simp) (hb hby at_141) hr
        · show Q_law Z p0 p1 a_TRUE a_MILLISECONDS a_MILLISECONDS_name a_FALSE h0 n0 _ T8.heap _
          rw [e8]
          exact ⟨rfl, N8⟩
      have k10 : ∀ t, own_At p e below m T7 93 #[.val (.long p0), .second, .val (.long p1), .second, .val (.ref b1), .val (.int (1 : Int32)), .val (.int (1 : Int32)), .val u7_7, .val (.int (1 : Int32)), .unset] [(.int (lcmpW p1 (9223372036854775807 : Int64)))] t → own_En p e below m s₁ #[(.long p0), (.long p1)] maxLocals t := by
        intro t k
        refine k7 t ?_
        refine XS.lloadN X7.here hx rfl (hb hby at_88) rfl ?_
        show own_At p e below m T7 89 #[.val (.long p0), .second, .val (.long p1), .second, .val (.ref b1), .val (.int (1 : Int32)), .val (.int (1 : Int32)), .val u7_7, .val (.int (1 : Int32)), .unset] [(.long p1)] t
        refine X7.ldc2J hx hown (mvT hZ (own_w hw 45 rfl)) rfl (hb hby at_89) ?_
        show own_At p e below m T7 92 #[.val (.long p0), .second, .val (.long p1), .second, .val (.ref b1), .val (.int (1 : Int32)), .val (.int (1 : Int32)), .val u7_7, .val (.int (1 : Int32)), .unset] [(.long (9223372036854775807 : Int64)), (.long p1)] t
        refine XS.lcmp X7.here hx rfl (hb hby at_92) rfl ?_
        show own_At p e below m T7 93 #[.val (.long p0), .second, .val (.long p1), .second, .val (.ref b1), .val (.int (1 : Int32)), .val (.int (1 : Int32)), .val u7_7, .val (.int (1 : Int32)), .unset] [(.int (lcmpW p1 (9223372036854775807 : Int64)))] t
        exact k
      by_cases hc11 : (lcmpW p1 (9223372036854775807 : Int64)) = (0 : Int32)
      · have k12 : ∀ t, own_At p e below m T7 116 #[.val (.long p0), .second, .val (.long p1), .second, .val (.ref b1), .val (.int (1 : Int32)), .val (.int (1 : Int32)), .val u7_7, .val (.int (1 : Int32)), .val (.int (1 : Int32))] [] t → own_En p e below m s₁ #[(.long p0), (.long p1)] maxLocals t := by
          intro t k
          refine k10 t ?_
          refine XS.ifYes X7.here hx rfl (pc0 := 93) (pc' := 109) rfl (hb hby at_93) rfl ((if0 _ _).trans (teq hc11).1) (by decide) (by decide) ?_
          show own_At p e below m T7 109 #[.val (.long p0), .second, .val (.long p1), .second, .val (.ref b1), .val (.int (1 : Int32)), .val (.int (1 : Int32)), .val u7_7, .val (.int (1 : Int32)), .unset] [] t
          refine XS.iconst X7.here hx rfl (hb hby at_109) ?_
          show own_At p e below m T7 110 #[.val (.long p0), .second, .val (.long p1), .second, .val (.ref b1), .val (.int (1 : Int32)), .val (.int (1 : Int32)), .val u7_7, .val (.int (1 : Int32)), .unset] [(.int (1 : Int32))] t
          refine XS.goto X7.here hx rfl (pc0 := 110) (pc' := 114) rfl (hb hby at_110) (by decide) (by decide) ?_
          show own_At p e below m T7 114 #[.val (.long p0), .second, .val (.long p1), .second, .val (.ref b1), .val (.int (1 : Int32)), .val (.int (1 : Int32)), .val u7_7, .val (.int (1 : Int32)), .unset] [(.int (1 : Int32))] t
          refine XS.istore X7.here hx rfl (hb hby at_114) rfl (l' := #[.val (.long p0), .second, .val (.long p1), .second, .val (.ref b1), .val (.int (1 : Int32)), .val (.int (1 : Int32)), .val u7_7, .val (.int (1 : Int32)), .val (.int (1 : Int32))]) rfl ?_
          show own_At p e below m T7 116 #[.val (.long p0), .second, .val (.long p1), .second, .val (.ref b1), .val (.int (1 : Int32)), .val (.int (1 : Int32)), .val u7_7, .val (.int (1 : Int32)), .val (.int (1 : Int32))] [] t
          exact k
        exact J8 _ _  X7 e7 N7 k12
      · have k13 : ∀ t, own_At p e below m T7 98 #[.val (.long p0), .second, .val (.long p1), .second, .val (.ref b1), .val (.int (1 : Int32)), .val (.int (1 : Int32)), .val u7_7, .val (.int (1 : Int32)), .unset] [(.ref b1)] t → own_En p e below m s₁ #[(.long p0), (.long p1)] maxLocals t := by
          intro t k
          refine k10 t ?_
          refine XS.ifNo X7.here hx rfl (hb hby at_93) rfl ((if0 _ _).trans (feq hc11).1) ?_
          show own_At p e below m T7 96 #[.val (.long p0), .second, .val (.long p1), .second, .val (.ref b1), .val (.int (1 : Int32)), .val (.int (1 : Int32)), .val u7_7, .val (.int (1 : Int32)), .unset] [] t
          refine XS.aload X7.here hx rfl (hb hby at_96) rfl rfl ?_
          show own_At p e below m T7 98 #[.val (.long p0), .second, .val (.long p1), .second, .val (.ref b1), .val (.int (1 : Int32)), .val (.int (1 : Int32)), .val u7_7, .val (.int (1 : Int32)), .unset] [(.ref b1)] t
          exact k
        by_cases hc14 : (lcmpW p1 (0 : Int64)) < (0 : Int32)
        · obtain ⟨cq15, kq15, q15a, q15b, q15c⟩ := isOf hZ e7 F1_0
          obtain ⟨_, _, ⟨T15, L15, k15, n15⟩, -, X15, ⟨Lc15, hQ15, l15, y15, z15⟩, st15⟩ := X7.virtualBack hx (y := own_m7) (z := own_m7) hown (mvT hZ (own_w hw 46 rfl)) (mvT hZ (own_w hw 47 rfl)) (notFace_of_selects (args := #[]) (mvT hZ (own_w hw 49 rfl))) (mvT hZ (own_w hw 49 rfl)) (mvT hZ (own_w hw 48 rfl)) (by decide) (backOf (W := 0) (rm_rn_neg l Z a0 hw [] b1 p1 _ _ _ _ T1.heap n0 O1 hE F1_2 hc14) hZ (own_w hw 50 rfl) (own_w hw 2 rfl) (by decide) (by decide)) q15a q15c (g := (mkF m 98 #[.val (.long p0), .second, .val (.long p1), .second, .val (.ref b1), .val (.int (1 : Int32)), .val (.int (1 : Int32)), .val u7_7, .val (.int (1 : Int32)), .unset] [(.ref b1)])) rfl (by rw [hml]; rfl) (Steps.refl _) (argsL := []) (rest := []) (lenOf pd___J rfl) rfl (by show 2 * 0 + _ ≤ _; exact Nat.le_of_eq rfl) (hb hby at_98) (fun _ _ => ⟨rfl, e7, (by decide : 1 + 0 ≤ _), (by decide : 3 + 0 ≤ _)⟩)
          dsimp only [Pt.U, Pt.locs, Pt.cells, Pt.slots] at X15 l15 y15 z15 st15 hQ15
          subst l15 y15 z15
          obtain ⟨rfl, N15q, hp15⟩ := hQ15
          have N15 := Fr.app N7 N15q
          obtain ⟨_, _, ⟨T16, L16, k16, n16⟩, -, X16, ⟨Lc16, hQ16, l16, y16, z16⟩, st16⟩ := Jvm.LawKit.callS X15 hx (y := own_m8) hown (mvT hZ (own_w hw 62 rfl)) (mvT hZ (own_w hw 63 rfl)) (mvT hZ (own_w hw 64 rfl)) (mvT hZ (own_w hw 65 rfl)) (by decide) (backOf (W := 2) (rm_xp_neg l Z a0 hw [] p1 _ _ _ _ T1.heap n0 O1 hE hc14) hZ (own_w hw 65 rfl) (own_w hw 64 rfl) (by decide) (by decide)) (g := (mkF m 102 #[.val (.long p0), .second, .val (.long p1), .second, .val (.ref b1), .val (.int (1 : Int32)), .val (.int (1 : Int32)), .val u7_7, .val (.int (1 : Int32)), .unset] [(.long p1), (.long (9223372036854775807 : Int64))])) rfl (by rw [hml]; rfl) (argsL := [(.long p1)]) (rest := [(.long (9223372036854775807 : Int64))]) (lenOf pd__J_J rfl) rfl (by show 2 * 0 + _ ≤ _; exact Nat.le_of_eq rfl) (hb hby at_102) (fun _ _ => ⟨rfl, hp15, (by decide : 1 + 0 ≤ _), (by decide : 3 + 0 ≤ _)⟩)
          dsimp only [Pt.U, Pt.locs, Pt.cells, Pt.slots] at X16 l16 y16 z16 st16 hQ16
          subst l16 y16 z16
          obtain ⟨rfl, N16q, hp16⟩ := hQ16
          have N16 := Fr.app N15 N16q
          have k17 : ∀ t, own_At p e below m T16 116 #[.val (.long p0), .second, .val (.long p1), .second, .val (.ref b1), .val (.int (1 : Int32)), .val (.int (1 : Int32)), .val u7_7, .val (.int (1 : Int32)), .val (.int (1 : Int32))] [] t → own_En p e below m s₁ #[(.long p0), (.long p1)] maxLocals t := by
            intro t k
            refine k13 t ?_
            refine st15.trans ?_
            show own_At p e below m T15 101 #[.val (.long p0), .second, .val (.long p1), .second, .val (.ref b1), .val (.int (1 : Int32)), .val (.int (1 : Int32)), .val u7_7, .val (.int (1 : Int32)), .unset] [(.long (9223372036854775807 : Int64))] t
            refine XS.lloadN X15.here hx rfl (hb hby at_101) rfl ?_
            show own_At p e below m T15 102 #[.val (.long p0), .second, .val (.long p1), .second, .val (.ref b1), .val (.int (1 : Int32)), .val (.int (1 : Int32)), .val u7_7, .val (.int (1 : Int32)), .unset] [(.long p1), (.long (9223372036854775807 : Int64))] t
            refine st16 _ ?_
            show own_At p e below m T16 105 #[.val (.long p0), .second, .val (.long p1), .second, .val (.ref b1), .val (.int (1 : Int32)), .val (.int (1 : Int32)), .val u7_7, .val (.int (1 : Int32)), .unset] [(.long (9223372036854775807 : Int64)), (.long (9223372036854775807 : Int64))] t
            refine XS.lcmp X16.here hx rfl (hb hby at_105) rfl ?_
            show own_At p e below m T16 106 #[.val (.long p0), .second, .val (.long p1), .second, .val (.ref b1), .val (.int (1 : Int32)), .val (.int (1 : Int32)), .val u7_7, .val (.int (1 : Int32)), .unset] [(.int (lcmpW (9223372036854775807 : Int64) (9223372036854775807 : Int64)))] t
            rw [show (lcmpW (9223372036854775807 : Int64) (9223372036854775807 : Int64)) = (0 : Int32) from by decide]
            show own_At p e below m T16 106 #[.val (.long p0), .second, .val (.long p1), .second, .val (.ref b1), .val (.int (1 : Int32)), .val (.int (1 : Int32)), .val u7_7, .val (.int (1 : Int32)), .unset] [(.int (0 : Int32))] t
            refine XS.ifNo X16.here hx rfl (hb hby at_106) rfl ((if0 _ _).trans (teq (by decide : (0 : Int32) = (0 : Int32))).2) ?_
            show own_At p e below m T16 109 #[.val (.long p0), .second, .val (.long p1), .second, .val (.ref b1), .val (.int (1 : Int32)), .val (.int (1 : Int32)), .val u7_7, .val (.int (1 : Int32)), .unset] [] t
            refine XS.iconst X16.here hx rfl (hb hby at_109) ?_
            show own_At p e below m T16 110 #[.val (.long p0), .second, .val (.long p1), .second, .val (.ref b1), .val (.int (1 : Int32)), .val (.int (1 : Int32)), .val u7_7, .val (.int (1 : Int32)), .unset] [(.int (1 : Int32))] t
            refine XS.goto X16.here hx rfl (pc0 := 110) (pc' := 114) rfl (hb hby at_110) (by decide) (by decide) ?_
            show own_At p e below m T16 114 #[.val (.long p0), .second, .val (.long p1), .second, .val (.ref b1), .val (.int (1 : Int32)), .val (.int (1 : Int32)), .val u7_7, .val (.int (1 : Int32)), .unset] [(.int (1 : Int32))] t
            refine XS.istore X16.here hx rfl (hb hby at_114) rfl (l' := #[.val (.long p0), .second, .val (.long p1), .second, .val (.ref b1), .val (.int (1 : Int32)), .val (.int (1 : Int32)), .val u7_7, .val (.int (1 : Int32)), .val (.int (1 : Int32))]) rfl ?_
            show own_At p e below m T16 116 #[.val (.long p0), .second, .val (.long p1), .second, .val (.ref b1), .val (.int (1 : Int32)), .val (.int (1 : Int32)), .val u7_7, .val (.int (1 : Int32)), .val (.int (1 : Int32))] [] t
            exact k
          exact J8 _ _  X16 hp16 N16 k17
        · by_cases hc18 : (0 : Int32) < (lcmpW (p1 + (1 : Int64)) (9223372036854 : Int64))
          · obtain ⟨cq19, kq19, q19a, q19b, q19c⟩ := isOf hZ e7 F1_0
            obtain ⟨_, _, ⟨T19, L19, k19, n19⟩, -, X19, ⟨Lc19, hQ19, l19, y19, z19⟩, st19⟩ := X7.virtualBack hx (y := own_m7) (z := own_m7) hown (mvT hZ (own_w hw 46 rfl)) (mvT hZ (own_w hw 47 rfl)) (notFace_of_selects (args := #[]) (mvT hZ (own_w hw 49 rfl))) (mvT hZ (own_w hw 49 rfl)) (mvT hZ (own_w hw 48 rfl)) (by decide) (backOf (W := 0) (rm_rn_t l Z a0 hw [] b1 p1 _ _ _ _ T1.heap n0 O1 hE F1_2 hc11 hc14 hc18) hZ (own_w hw 50 rfl) (own_w hw 2 rfl) (by decide) (by decide)) q19a q19c (g := (mkF m 98 #[.val (.long p0), .second, .val (.long p1), .second, .val (.ref b1), .val (.int (1 : Int32)), .val (.int (1 : Int32)), .val u7_7, .val (.int (1 : Int32)), .unset] [(.ref b1)])) rfl (by rw [hml]; rfl) (Steps.refl _) (argsL := []) (rest := []) (lenOf pd___J rfl) rfl (by show 2 * 0 + _ ≤ _; exact Nat.le_of_eq rfl) (hb hby at_98) (fun _ _ => ⟨rfl, e7, (by decide : 1 + 0 ≤ _), (by decide : 3 + 0 ≤ _)⟩)
            dsimp only [Pt.U, Pt.locs, Pt.cells, Pt.slots] at X19 l19 y19 z19 st19 hQ19
            subst l19 y19 z19
            obtain ⟨rfl, N19q, hp19⟩ := hQ19
            have N19 := Fr.app N7 N19q
            obtain ⟨_, _, ⟨T20, L20, k20, n20⟩, -, X20, ⟨Lc20, hQ20, l20, y20, z20⟩, st20⟩ := Jvm.LawKit.callS X19 hx (y := own_m8) hown (mvT hZ (own_w hw 62 rfl)) (mvT hZ (own_w hw 63 rfl)) (mvT hZ (own_w hw 64 rfl)) (mvT hZ (own_w hw 65 rfl)) (by decide) (backOf (W := 2) (rm_xp_t l Z a0 hw [] p1 _ _ _ _ T1.heap n0 O1 hE hc14 hc18) hZ (own_w hw 65 rfl) (own_w hw 64 rfl) (by decide) (by decide)) (g := (mkF m 102 #[.val (.long p0), .second, .val (.long p1), .second, .val (.ref b1), .val (.int (1 : Int32)), .val (.int (1 : Int32)), .val u7_7, .val (.int (1 : Int32)), .unset] [(.long p1), (.long (9223372036854775807 : Int64))])) rfl (by rw [hml]; rfl) (argsL := [(.long p1)]) (rest := [(.long (9223372036854775807 : Int64))]) (lenOf pd__J_J rfl) rfl (by show 2 * 0 + _ ≤ _; exact Nat.le_of_eq rfl) (hb hby at_102) (fun _ _ => ⟨rfl, hp19, (by decide : 1 + 0 ≤ _), (by decide : 3 + 0 ≤ _)⟩)
            dsimp only [Pt.U, Pt.locs, Pt.cells, Pt.slots] at X20 l20 y20 z20 st20 hQ20
            subst l20 y20 z20
            obtain ⟨rfl, N20q, hp20⟩ := hQ20
            have N20 := Fr.app N19 N20q
            have k21 : ∀ t, own_At p e below m T20 116 #[.val (.long p0), .second, .val (.long p1), .second, .val (.ref b1), .val (.int (1 : Int32)), .val (.int (1 : Int32)), .val u7_7, .val (.int (1 : Int32)), .val (.int (1 : Int32))] [] t → own_En p e below m s₁ #[(.long p0), (.long p1)] maxLocals t := by
              intro t k
              refine k13 t ?_
              refine st19.trans ?_
              show own_At p e below m T19 101 #[.val (.long p0), .second, .val (.long p1), .second, .val (.ref b1), .val (.int (1 : Int32)), .val (.int (1 : Int32)), .val u7_7, .val (.int (1 : Int32)), .unset] [(.long (9223372036854775807 : Int64))] t
              refine XS.lloadN X19.here hx rfl (hb hby at_101) rfl ?_
              show own_At p e below m T19 102 #[.val (.long p0), .second, .val (.long p1), .second, .val (.ref b1), .val (.int (1 : Int32)), .val (.int (1 : Int32)), .val u7_7, .val (.int (1 : Int32)), .unset] [(.long p1), (.long (9223372036854775807 : Int64))] t
              refine st20 _ ?_
              show own_At p e below m T20 105 #[.val (.long p0), .second, .val (.long p1), .second, .val (.ref b1), .val (.int (1 : Int32)), .val (.int (1 : Int32)), .val u7_7, .val (.int (1 : Int32)), .unset] [(.long (9223372036854775807 : Int64)), (.long (9223372036854775807 : Int64))] t
              refine XS.lcmp X20.here hx rfl (hb hby at_105) rfl ?_
              show own_At p e below m T20 106 #[.val (.long p0), .second, .val (.long p1), .second, .val (.ref b1), .val (.int (1 : Int32)), .val (.int (1 : Int32)), .val u7_7, .val (.int (1 : Int32)), .unset] [(.int (lcmpW (9223372036854775807 : Int64) (9223372036854775807 : Int64)))] t
              rw [show (lcmpW (9223372036854775807 : Int64) (9223372036854775807 : Int64)) = (0 : Int32) from by decide]
              show own_At p e below m T20 106 #[.val (.long p0), .second, .val (.long p1), .second, .val (.ref b1), .val (.int (1 : Int32)), .val (.int (1 : Int32)), .val u7_7, .val (.int (1 : Int32)), .unset] [(.int (0 : Int32))] t
              refine XS.ifNo X20.here hx rfl (hb hby at_106) rfl ((if0 _ _).trans (teq (by decide : (0 : Int32) = (0 : Int32))).2) ?_
              show own_At p e below m T20 109 #[.val (.long p0), .second, .val (.long p1), .second, .val (.ref b1), .val (.int (1 : Int32)), .val (.int (1 : Int32)), .val u7_7, .val (.int (1 : Int32)), .unset] [] t
              refine XS.iconst X20.here hx rfl (hb hby at_109) ?_
              show own_At p e below m T20 110 #[.val (.long p0), .second, .val (.long p1), .second, .val (.ref b1), .val (.int (1 : Int32)), .val (.int (1 : Int32)), .val u7_7, .val (.int (1 : Int32)), .unset] [(.int (1 : Int32))] t
              refine XS.goto X20.here hx rfl (pc0 := 110) (pc' := 114) rfl (hb hby at_110) (by decide) (by decide) ?_
              show own_At p e below m T20 114 #[.val (.long p0), .second, .val (.long p1), .second, .val (.ref b1), .val (.int (1 : Int32)), .val (.int (1 : Int32)), .val u7_7, .val (.int (1 : Int32)), .unset] [(.int (1 : Int32))] t
              refine XS.istore X20.here hx rfl (hb hby at_114) rfl (l' := #[.val (.long p0), .second, .val (.long p1), .second, .val (.ref b1), .val (.int (1 : Int32)), .val (.int (1 : Int32)), .val u7_7, .val (.int (1 : Int32)), .val (.int (1 : Int32))]) rfl ?_
              show own_At p e below m T20 116 #[.val (.long p0), .second, .val (.long p1), .second, .val (.ref b1), .val (.int (1 : Int32)), .val (.int (1 : Int32)), .val u7_7, .val (.int (1 : Int32)), .val (.int (1 : Int32))] [] t
              exact k
            exact J8 _ _  X20 hp20 N20 k21
          · obtain ⟨cq22, kq22, q22a, q22b, q22c⟩ := isOf hZ e7 F1_0
            obtain ⟨_, _, ⟨T22, L22, k22, n22⟩, -, X22, ⟨Lc22, hQ22, l22, y22, z22⟩, st22⟩ := X7.virtualBack hx (y := own_m7) (z := own_m7) hown (mvT hZ (own_w hw 46 rfl)) (mvT hZ (own_w hw 47 rfl)) (notFace_of_selects (args := #[]) (mvT hZ (own_w hw 49 rfl))) (mvT hZ (own_w hw 49 rfl)) (mvT hZ (own_w hw 48 rfl)) (by decide) (backOf (W := 0) (rm_rn_f l Z a0 hw [] b1 p1 _ _ _ _ T1.heap n0 O1 hE F1_2 hc11 hc14 hc18) hZ (own_w hw 50 rfl) (own_w hw 2 rfl) (by decide) (by decide)) q22a q22c (g := (mkF m 98 #[.val (.long p0), .second, .val (.long p1), .second, .val (.ref b1), .val (.int (1 : Int32)), .val (.int (1 : Int32)), .val u7_7, .val (.int (1 : Int32)), .unset] [(.ref b1)])) rfl (by rw [hml]; rfl) (Steps.refl _) (argsL := []) (rest := []) (lenOf pd___J rfl) rfl (by show 2 * 0 + _ ≤ _; exact Nat.le_of_eq rfl) (hb hby at_98) (fun _ _ => ⟨rfl, e7, (by decide : 1 + 0 ≤ _), (by decide : 3 + 0 ≤ _)⟩)
            dsimp only [Pt.U, Pt.locs, Pt.cells, Pt.slots] at X22 l22 y22 z22 st22 hQ22
            subst l22 y22 z22
            obtain ⟨rfl, N22q, hp22⟩ := hQ22
            have N22 := Fr.app N7 N22q
            obtain ⟨_, _, ⟨T23, L23, k23, n23⟩, -, X23, ⟨Lc23, hQ23, l23, y23, z23⟩, st23⟩ := Jvm.LawKit.callS X22 hx (y := own_m8) hown (mvT hZ (own_w hw 62 rfl)) (mvT hZ (own_w hw 63 rfl)) (mvT hZ (own_w hw 64 rfl)) (mvT hZ (own_w hw 65 rfl)) (by decide) (backOf (W := 2) (rm_xp_f l Z a0 hw [] p1 _ _ _ _ T1.heap n0 O1 hE hc14 hc18) hZ (own_w hw 65 rfl) (own_w hw 64 rfl) (by decide) (by decide)) (g := (mkF m 102 #[.val (.long p0), .second, .val (.long p1), .second, .val (.ref b1), .val (.int (1 : Int32)), .val (.int (1 : Int32)), .val u7_7, .val (.int (1 : Int32)), .unset] [(.long p1), (.long ((p1 + (1 : Int64)) * (1000000 : Int64)))])) rfl (by rw [hml]; rfl) (argsL := [(.long p1)]) (rest := [(.long ((p1 + (1 : Int64)) * (1000000 : Int64)))]) (lenOf pd__J_J rfl) rfl (by show 2 * 0 + _ ≤ _; exact Nat.le_of_eq rfl) (hb hby at_102) (fun _ _ => ⟨rfl, hp22, (by decide : 1 + 0 ≤ _), (by decide : 3 + 0 ≤ _)⟩)
            dsimp only [Pt.U, Pt.locs, Pt.cells, Pt.slots] at X23 l23 y23 z23 st23 hQ23
            subst l23 y23 z23
            obtain ⟨rfl, N23q, hp23⟩ := hQ23
            have N23 := Fr.app N22 N23q
            have k24 : ∀ t, own_At p e below m T23 116 #[.val (.long p0), .second, .val (.long p1), .second, .val (.ref b1), .val (.int (1 : Int32)), .val (.int (1 : Int32)), .val u7_7, .val (.int (1 : Int32)), .val (.int (1 : Int32))] [] t → own_En p e below m s₁ #[(.long p0), (.long p1)] maxLocals t := by
              intro t k
              refine k13 t ?_
              refine st22.trans ?_
              show own_At p e below m T22 101 #[.val (.long p0), .second, .val (.long p1), .second, .val (.ref b1), .val (.int (1 : Int32)), .val (.int (1 : Int32)), .val u7_7, .val (.int (1 : Int32)), .unset] [(.long ((p1 + (1 : Int64)) * (1000000 : Int64)))] t
              refine XS.lloadN X22.here hx rfl (hb hby at_101) rfl ?_
              show own_At p e below m T22 102 #[.val (.long p0), .second, .val (.long p1), .second, .val (.ref b1), .val (.int (1 : Int32)), .val (.int (1 : Int32)), .val u7_7, .val (.int (1 : Int32)), .unset] [(.long p1), (.long ((p1 + (1 : Int64)) * (1000000 : Int64)))] t
              refine st23 _ ?_
              show own_At p e below m T23 105 #[.val (.long p0), .second, .val (.long p1), .second, .val (.ref b1), .val (.int (1 : Int32)), .val (.int (1 : Int32)), .val u7_7, .val (.int (1 : Int32)), .unset] [(.long ((p1 + (1 : Int64)) * (1000000 : Int64))), (.long ((p1 + (1 : Int64)) * (1000000 : Int64)))] t
              refine XS.lcmp X23.here hx rfl (hb hby at_105) rfl ?_
              show own_At p e below m T23 106 #[.val (.long p0), .second, .val (.long p1), .second, .val (.ref b1), .val (.int (1 : Int32)), .val (.int (1 : Int32)), .val u7_7, .val (.int (1 : Int32)), .unset] [(.int (lcmpW ((p1 + (1 : Int64)) * (1000000 : Int64)) ((p1 + (1 : Int64)) * (1000000 : Int64))))] t
              refine XS.ifNo X23.here hx rfl (hb hby at_106) rfl ((if0 _ _).trans (teq ((lw_eq _ _).mpr rfl)).2) ?_
              show own_At p e below m T23 109 #[.val (.long p0), .second, .val (.long p1), .second, .val (.ref b1), .val (.int (1 : Int32)), .val (.int (1 : Int32)), .val u7_7, .val (.int (1 : Int32)), .unset] [] t
              refine XS.iconst X23.here hx rfl (hb hby at_109) ?_
              show own_At p e below m T23 110 #[.val (.long p0), .second, .val (.long p1), .second, .val (.ref b1), .val (.int (1 : Int32)), .val (.int (1 : Int32)), .val u7_7, .val (.int (1 : Int32)), .unset] [(.int (1 : Int32))] t
              refine XS.goto X23.here hx rfl (pc0 := 110) (pc' := 114) rfl (hb hby at_110) (by decide) (by decide) ?_
              show own_At p e below m T23 114 #[.val (.long p0), .second, .val (.long p1), .second, .val (.ref b1), .val (.int (1 : Int32)), .val (.int (1 : Int32)), .val u7_7, .val (.int (1 : Int32)), .unset] [(.int (1 : Int32))] t
              refine XS.istore X23.here hx rfl (hb hby at_114) rfl (l' := #[.val (.long p0), .second, .val (.long p1), .second, .val (.ref b1), .val (.int (1 : Int32)), .val (.int (1 : Int32)), .val u7_7, .val (.int (1 : Int32)), .val (.int (1 : Int32))]) rfl ?_
              show own_At p e below m T23 116 #[.val (.long p0), .second, .val (.long p1), .second, .val (.ref b1), .val (.int (1 : Int32)), .val (.int (1 : Int32)), .val u7_7, .val (.int (1 : Int32)), .val (.int (1 : Int32))] [] t
              exact k
            exact J8 _ _  X23 hp23 N23 k24
    by_cases hc25 : (0 : Int32) < (lcmpW p0 (1 : Int64))
    · have eh : own_held p0 a_TRUE a_FALSE = a_TRUE := if_pos hc25
      have k26 : ∀ t, own_At p e below m T5 57 #[.val (.long p0), .second, .val (.long p1), .second, .val (.ref b1), .val (.int (1 : Int32)), .val (.int (1 : Int32)), .val (.ref a_TRUE), .unset, .unset] [] t → own_En p e below m s₁ #[(.long p0), (.long p1)] maxLocals t := by
        intro t k
        refine k6 t ?_
        rw [eh]
        exact k
      obtain ⟨cq27, kq27, q27a, q27b, q27c⟩ := isOf hZ hp5 (E_TRUE.ext O1.2)
      obtain ⟨_, _, ⟨T27, L27, k27, n27⟩, -, X27, ⟨Lc27, hQ27, l27, y27, z27⟩, st27⟩ := X5.virtualBack hx (y := own_m9) (z := own_m9) hown (mvT hZ (own_w hw 38 rfl)) (mvT hZ (own_w hw 39 rfl)) (notFace_of_selects (args := #[]) (mvT hZ (own_w hw 41 rfl))) (mvT hZ (own_w hw 41 rfl)) (mvT hZ (own_w hw 40 rfl)) (by decide) (backOf (W := 0) (rm_f3 l Z a0 hw []  _ _ _ _ T1.heap n0 O1 hE) hZ (own_w hw 42 rfl) (own_w hw 8 rfl) (by decide) (by decide)) q27a q27c (g := (mkF m 64 #[.val (.long p0), .second, .val (.long p1), .second, .val (.ref b1), .val (.int (1 : Int32)), .val (.int (1 : Int32)), .val (.ref a_TRUE), .unset, .unset] [(.ref a_TRUE)])) rfl (by rw [hml]; rfl) (Steps.refl _) (argsL := []) (rest := []) (lenOf pd___Z rfl) rfl (by show 2 * 0 + _ ≤ _; exact Nat.le_of_eq rfl) (hb hby at_64) (fun _ _ => ⟨rfl, hp5, (by decide : 1 + 0 ≤ _), (by decide : 3 + 0 ≤ _)⟩)
      dsimp only [Pt.U, Pt.locs, Pt.cells, Pt.slots] at X27 l27 y27 z27 st27 hQ27
      subst l27 y27 z27
      obtain ⟨rfl, N27q, hp27⟩ := hQ27
      have N27 := Fr.app N5 N27q
      have k28 : ∀ t, own_At p e below m T27 88 #[.val (.long p0), .second, .val (.long p1), .second, .val (.ref b1), .val (.int (1 : Int32)), .val (.int (1 : Int32)), .val (.ref a_TRUE), .val (.int (1 : Int32)), .unset] [] t → own_En p e below m s₁ #[(.long p0), (.long p1)] maxLocals t := by
        intro t k
        refine k26 t ?_
        refine XS.aload X5.here hx rfl (hb hby at_57) rfl rfl ?_
        show own_At p e below m T5 59 #[.val (.long p0), .second, .val (.long p1), .second, .val (.ref b1), .val (.int (1 : Int32)), .val (.int (1 : Int32)), .val (.ref a_TRUE), .unset, .unset] [(.ref a_TRUE)] t
        refine XS.ifnullNo X5.here hx rfl (hb hby at_59) rfl ?_
        show own_At p e below m T5 62 #[.val (.long p0), .second, .val (.long p1), .second, .val (.ref b1), .val (.int (1 : Int32)), .val (.int (1 : Int32)), .val (.ref a_TRUE), .unset, .unset] [] t
        refine XS.aload X5.here hx rfl (hb hby at_62) rfl rfl ?_
        show own_At p e below m T5 64 #[.val (.long p0), .second, .val (.long p1), .second, .val (.ref b1), .val (.int (1 : Int32)), .val (.int (1 : Int32)), .val (.ref a_TRUE), .unset, .unset] [(.ref a_TRUE)] t
        refine st27.trans ?_
        show own_At p e below m T27 67 #[.val (.long p0), .second, .val (.long p1), .second, .val (.ref b1), .val (.int (1 : Int32)), .val (.int (1 : Int32)), .val (.ref a_TRUE), .unset, .unset] [(.int (1 : Int32))] t
        refine XS.lloadN X27.here hx rfl (hb hby at_67) rfl ?_
        show own_At p e below m T27 68 #[.val (.long p0), .second, .val (.long p1), .second, .val (.ref b1), .val (.int (1 : Int32)), .val (.int (1 : Int32)), .val (.ref a_TRUE), .unset, .unset] [(.long p0), (.int (1 : Int32))] t
        refine XS.lconst X27.here hx rfl (hb hby at_68) ?_
        show own_At p e below m T27 69 #[.val (.long p0), .second, .val (.long p1), .second, .val (.ref b1), .val (.int (1 : Int32)), .val (.int (1 : Int32)), .val (.ref a_TRUE), .unset, .unset] [(.long (1 : Int64)), (.long p0), (.int (1 : Int32))] t
        refine XS.lcmp X27.here hx rfl (hb hby at_69) rfl ?_
        show own_At p e below m T27 70 #[.val (.long p0), .second, .val (.long p1), .second, .val (.ref b1), .val (.int (1 : Int32)), .val (.int (1 : Int32)), .val (.ref a_TRUE), .unset, .unset] [(.int (lcmpW p0 (1 : Int64))), (.int (1 : Int32))] t
        refine XS.ifNo X27.here hx rfl (hb hby at_70) rfl ((if0 _ _).trans (tlt hc25).2.2.2) ?_
        show own_At p e below m T27 73 #[.val (.long p0), .second, .val (.long p1), .second, .val (.ref b1), .val (.int (1 : Int32)), .val (.int (1 : Int32)), .val (.ref a_TRUE), .unset, .unset] [(.int (1 : Int32))] t
        refine XS.iconst X27.here hx rfl (hb hby at_73) ?_
        show own_At p e below m T27 74 #[.val (.long p0), .second, .val (.long p1), .second, .val (.ref b1), .val (.int (1 : Int32)), .val (.int (1 : Int32)), .val (.ref a_TRUE), .unset, .unset] [(.int (1 : Int32)), (.int (1 : Int32))] t
        refine XS.goto X27.here hx rfl (pc0 := 74) (pc' := 78) rfl (hb hby at_74) (by decide) (by decide) ?_
        show own_At p e below m T27 78 #[.val (.long p0), .second, .val (.long p1), .second, .val (.ref b1), .val (.int (1 : Int32)), .val (.int (1 : Int32)), .val (.ref a_TRUE), .unset, .unset] [(.int (1 : Int32)), (.int (1 : Int32))] t
        refine XS.icmpNo X27.here hx rfl (hb hby at_78) rfl (teq (by decide : (1 : Int32) = (1 : Int32))).2 ?_
        show own_At p e below m T27 81 #[.val (.long p0), .second, .val (.long p1), .second, .val (.ref b1), .val (.int (1 : Int32)), .val (.int (1 : Int32)), .val (.ref a_TRUE), .unset, .unset] [] t
        refine XS.iconst X27.here hx rfl (hb hby at_81) ?_
        show own_At p e below m T27 82 #[.val (.long p0), .second, .val (.long p1), .second, .val (.ref b1), .val (.int (1 : Int32)), .val (.int (1 : Int32)), .val (.ref a_TRUE), .unset, .unset] [(.int (1 : Int32))] t
        refine XS.goto X27.here hx rfl (pc0 := 82) (pc' := 86) rfl (hb hby at_82) (by decide) (by decide) ?_
        show own_At p e below m T27 86 #[.val (.long p0), .second, .val (.long p1), .second, .val (.ref b1), .val (.int (1 : Int32)), .val (.int (1 : Int32)), .val (.ref a_TRUE), .unset, .unset] [(.int (1 : Int32))] t
        refine XS.istore X27.here hx rfl (hb hby at_86) rfl (l' := #[.val (.long p0), .second, .val (.long p1), .second, .val (.ref b1), .val (.int (1 : Int32)), .val (.int (1 : Int32)), .val (.ref a_TRUE), .val (.int (1 : Int32)), .unset]) rfl ?_
        show own_At p e below m T27 88 #[.val (.long p0), .second, .val (.long p1), .second, .val (.ref b1), .val (.int (1 : Int32)), .val (.int (1 : Int32)), .val (.ref a_TRUE), .val (.int (1 : Int32)), .unset] [] t
        exact k
      exact J7 _ _ ((.ref a_TRUE)) X27 hp27 N27 k28
    · have eh : own_held p0 a_TRUE a_FALSE = a_FALSE := if_neg hc25
      have k29 : ∀ t, own_At p e below m T5 57 #[.val (.long p0), .second, .val (.long p1), .second, .val (.ref b1), .val (.int (1 : Int32)), .val (.int (1 : Int32)), .val (.ref a_FALSE), .unset, .unset] [] t → own_En p e below m s₁ #[(.long p0), (.long p1)] maxLocals t := by
        intro t k
        refine k6 t ?_
        rw [eh]
        exact k
      obtain ⟨cq30, kq30, q30a, q30b, q30c⟩ := isOf hZ hp5 (E_FALSE.ext O1.2)
      obtain ⟨_, _, ⟨T30, L30, k30, n30⟩, -, X30, ⟨Lc30, hQ30, l30, y30, z30⟩, st30⟩ := X5.virtualBack hx (y := own_m9) (z := own_m9) hown (mvT hZ (own_w hw 38 rfl)) (mvT hZ (own_w hw 39 rfl)) (notFace_of_selects (args := #[]) (mvT hZ (own_w hw 41 rfl))) (mvT hZ (own_w hw 41 rfl)) (mvT hZ (own_w hw 40 rfl)) (by decide) (backOf (W := 0) (rm_f4 l Z a0 hw []  _ _ _ _ T1.heap n0 O1 hE) hZ (own_w hw 42 rfl) (own_w hw 8 rfl) (by decide) (by decide)) q30a q30c (g := (mkF m 64 #[.val (.long p0), .second, .val (.long p1), .second, .val (.ref b1), .val (.int (1 : Int32)), .val (.int (1 : Int32)), .val (.ref a_FALSE), .unset, .unset] [(.ref a_FALSE)])) rfl (by rw [hml]; rfl) (Steps.refl _) (argsL := []) (rest := []) (lenOf pd___Z rfl) rfl (by show 2 * 0 + _ ≤ _; exact Nat.le_of_eq rfl) (hb hby at_64) (fun _ _ => ⟨rfl, hp5, (by decide : 1 + 0 ≤ _), (by decide : 3 + 0 ≤ _)⟩)
      dsimp only [Pt.U, Pt.locs, Pt.cells, Pt.slots] at X30 l30 y30 z30 st30 hQ30
      subst l30 y30 z30
      obtain ⟨rfl, N30q, hp30⟩ := hQ30
      have N30 := Fr.app N5 N30q
      have k31 : ∀ t, own_At p e below m T30 88 #[.val (.long p0), .second, .val (.long p1), .second, .val (.ref b1), .val (.int (1 : Int32)), .val (.int (1 : Int32)), .val (.ref a_FALSE), .val (.int (1 : Int32)), .unset] [] t → own_En p e below m s₁ #[(.long p0), (.long p1)] maxLocals t := by
        intro t k
        refine k29 t ?_
        refine XS.aload X5.here hx rfl (hb hby at_57) rfl rfl ?_
        show own_At p e below m T5 59 #[.val (.long p0), .second, .val (.long p1), .second, .val (.ref b1), .val (.int (1 : Int32)), .val (.int (1 : Int32)), .val (.ref a_FALSE), .unset, .unset] [(.ref a_FALSE)] t
        refine XS.ifnullNo X5.here hx rfl (hb hby at_59) rfl ?_
        show own_At p e below m T5 62 #[.val (.long p0), .second, .val (.long p1), .second, .val (.ref b1), .val (.int (1 : Int32)), .val (.int (1 : Int32)), .val (.ref a_FALSE), .unset, .unset] [] t
        refine XS.aload X5.here hx rfl (hb hby at_62) rfl rfl ?_
        show own_At p e below m T5 64 #[.val (.long p0), .second, .val (.long p1), .second, .val (.ref b1), .val (.int (1 : Int32)), .val (.int (1 : Int32)), .val (.ref a_FALSE), .unset, .unset] [(.ref a_FALSE)] t
        refine st30.trans ?_
        show own_At p e below m T30 67 #[.val (.long p0), .second, .val (.long p1), .second, .val (.ref b1), .val (.int (1 : Int32)), .val (.int (1 : Int32)), .val (.ref a_FALSE), .unset, .unset] [(.int (0 : Int32))] t
        refine XS.lloadN X30.here hx rfl (hb hby at_67) rfl ?_
        show own_At p e below m T30 68 #[.val (.long p0), .second, .val (.long p1), .second, .val (.ref b1), .val (.int (1 : Int32)), .val (.int (1 : Int32)), .val (.ref a_FALSE), .unset, .unset] [(.long p0), (.int (0 : Int32))] t
        refine XS.lconst X30.here hx rfl (hb hby at_68) ?_
        show own_At p e below m T30 69 #[.val (.long p0), .second, .val (.long p1), .second, .val (.ref b1), .val (.int (1 : Int32)), .val (.int (1 : Int32)), .val (.ref a_FALSE), .unset, .unset] [(.long (1 : Int64)), (.long p0), (.int (0 : Int32))] t
        refine XS.lcmp X30.here hx rfl (hb hby at_69) rfl ?_
        show own_At p e below m T30 70 #[.val (.long p0), .second, .val (.long p1), .second, .val (.ref b1), .val (.int (1 : Int32)), .val (.int (1 : Int32)), .val (.ref a_FALSE), .unset, .unset] [(.int (lcmpW p0 (1 : Int64))), (.int (0 : Int32))] t
        refine XS.ifYes X30.here hx rfl (pc0 := 70) (pc' := 77) rfl (hb hby at_70) rfl ((if0 _ _).trans (flt hc25).2.2.2) (by decide) (by decide) ?_
        show own_At p e below m T30 77 #[.val (.long p0), .second, .val (.long p1), .second, .val (.ref b1), .val (.int (1 : Int32)), .val (.int (1 : Int32)), .val (.ref a_FALSE), .unset, .unset] [(.int (0 : Int32))] t
        refine XS.iconst X30.here hx rfl (hb hby at_77) ?_
        show own_At p e below m T30 78 #[.val (.long p0), .second, .val (.long p1), .second, .val (.ref b1), .val (.int (1 : Int32)), .val (.int (1 : Int32)), .val (.ref a_FALSE), .unset, .unset] [(.int (0 : Int32)), (.int (0 : Int32))] t
        refine XS.icmpNo X30.here hx rfl (hb hby at_78) rfl (teq (by decide : (0 : Int32) = (0 : Int32))).2 ?_
        show own_At p e below m T30 81 #[.val (.long p0), .second, .val (.long p1), .second, .val (.ref b1), .val (.int (1 : Int32)), .val (.int (1 : Int32)), .val (.ref a_FALSE), .unset, .unset] [] t
        refine XS.iconst X30.here hx rfl (hb hby at_81) ?_
        show own_At p e below m T30 82 #[.val (.long p0), .second, .val (.long p1), .second, .val (.ref b1), .val (.int (1 : Int32)), .val (.int (1 : Int32)), .val (.ref a_FALSE), .unset, .unset] [(.int (1 : Int32))] t
        refine XS.goto X30.here hx rfl (pc0 := 82) (pc' := 86) rfl (hb hby at_82) (by decide) (by decide) ?_
        show own_At p e below m T30 86 #[.val (.long p0), .second, .val (.long p1), .second, .val (.ref b1), .val (.int (1 : Int32)), .val (.int (1 : Int32)), .val (.ref a_FALSE), .unset, .unset] [(.int (1 : Int32))] t
        refine XS.istore X30.here hx rfl (hb hby at_86) rfl (l' := #[.val (.long p0), .second, .val (.long p1), .second, .val (.ref b1), .val (.int (1 : Int32)), .val (.int (1 : Int32)), .val (.ref a_FALSE), .val (.int (1 : Int32)), .unset]) rfl ?_
        show own_At p e below m T30 88 #[.val (.long p0), .second, .val (.long p1), .second, .val (.ref b1), .val (.int (1 : Int32)), .val (.int (1 : Int32)), .val (.ref a_FALSE), .val (.int (1 : Int32)), .unset] [] t
        exact k
      exact J7 _ _ ((.ref a_FALSE)) X30 hp30 N30 k31
  by_cases hc32 : (0 : Int32) < (lcmpW p0 (0 : Int64))
  · obtain ⟨cq33, kq33, q33a, q33b, q33c⟩ := isOf hZ hp2 F1_0
    obtain ⟨_, _, ⟨T33, L33, k33, n33⟩, -, X33, ⟨Lc33, hQ33, l33, y33, z33⟩, st33⟩ := X2.virtualBack hx (y := own_m4) (z := own_m4) hown (mvT hZ (own_w hw 28 rfl)) (mvT hZ (own_w hw 29 rfl)) (notFace_of_selects (args := #[]) (mvT hZ (own_w hw 31 rfl))) (mvT hZ (own_w hw 31 rfl)) (mvT hZ (own_w hw 30 rfl)) (by decide) (backOf (W := 0) (rm_taken_t l Z a0 hw [] b1 p0 _ _ _ _ T1.heap n0 O1 hE F1_1 hc32) hZ (own_w hw 32 rfl) (own_w hw 2 rfl) (by decide) (by decide)) q33a q33c (g := (mkF m 26 #[.val (.long p0), .second, .val (.long p1), .second, .val (.ref b1), .val (.int (1 : Int32)), .unset, .unset, .unset, .unset] [(.ref b1)])) rfl (by rw [hml]; rfl) (Steps.refl _) (argsL := []) (rest := []) (lenOf pd___Z rfl) rfl (by show 2 * 0 + _ ≤ _; exact Nat.le_of_eq rfl) (hb hby at_26) (fun _ _ => ⟨rfl, hp2, (by decide : 1 + 0 ≤ _), (by decide : 3 + 0 ≤ _)⟩)
    dsimp only [Pt.U, Pt.locs, Pt.cells, Pt.slots] at X33 l33 y33 z33 st33 hQ33
    subst l33 y33 z33
    obtain ⟨rfl, N33q, hp33⟩ := hQ33
    have N33 := Fr.app N2 N33q
    have k34 : ∀ t, own_At p e below m T33 50 #[.val (.long p0), .second, .val (.long p1), .second, .val (.ref b1), .val (.int (1 : Int32)), .val (.int (1 : Int32)), .unset, .unset, .unset] [] t → own_En p e below m s₁ #[(.long p0), (.long p1)] maxLocals t := by
      intro t k
      refine k3 t ?_
      refine st33.trans ?_
      show own_At p e below m T33 29 #[.val (.long p0), .second, .val (.long p1), .second, .val (.ref b1), .val (.int (1 : Int32)), .unset, .unset, .unset, .unset] [(.int (1 : Int32))] t
      refine XS.lloadN X33.here hx rfl (hb hby at_29) rfl ?_
      show own_At p e below m T33 30 #[.val (.long p0), .second, .val (.long p1), .second, .val (.ref b1), .val (.int (1 : Int32)), .unset, .unset, .unset, .unset] [(.long p0), (.int (1 : Int32))] t
      refine XS.lconst X33.here hx rfl (hb hby at_30) ?_
      show own_At p e below m T33 31 #[.val (.long p0), .second, .val (.long p1), .second, .val (.ref b1), .val (.int (1 : Int32)), .unset, .unset, .unset, .unset] [(.long (0 : Int64)), (.long p0), (.int (1 : Int32))] t
      refine XS.lcmp X33.here hx rfl (hb hby at_31) rfl ?_
      show own_At p e below m T33 32 #[.val (.long p0), .second, .val (.long p1), .second, .val (.ref b1), .val (.int (1 : Int32)), .unset, .unset, .unset, .unset] [(.int (lcmpW p0 (0 : Int64))), (.int (1 : Int32))] t
      refine XS.ifNo X33.here hx rfl (hb hby at_32) rfl ((if0 _ _).trans (tlt hc32).2.2.2) ?_
      show own_At p e below m T33 35 #[.val (.long p0), .second, .val (.long p1), .second, .val (.ref b1), .val (.int (1 : Int32)), .unset, .unset, .unset, .unset] [(.int (1 : Int32))] t
      refine XS.iconst X33.here hx rfl (hb hby at_35) ?_
      show own_At p e below m T33 36 #[.val (.long p0), .second, .val (.long p1), .second, .val (.ref b1), .val (.int (1 : Int32)), .unset, .unset, .unset, .unset] [(.int (1 : Int32)), (.int (1 : Int32))] t
      refine XS.goto X33.here hx rfl (pc0 := 36) (pc' := 40) rfl (hb hby at_36) (by decide) (by decide) ?_
      show own_At p e below m T33 40 #[.val (.long p0), .second, .val (.long p1), .second, .val (.ref b1), .val (.int (1 : Int32)), .unset, .unset, .unset, .unset] [(.int (1 : Int32)), (.int (1 : Int32))] t
      refine XS.icmpNo X33.here hx rfl (hb hby at_40) rfl (teq (by decide : (1 : Int32) = (1 : Int32))).2 ?_
      show own_At p e below m T33 43 #[.val (.long p0), .second, .val (.long p1), .second, .val (.ref b1), .val (.int (1 : Int32)), .unset, .unset, .unset, .unset] [] t
      refine XS.iconst X33.here hx rfl (hb hby at_43) ?_
      show own_At p e below m T33 44 #[.val (.long p0), .second, .val (.long p1), .second, .val (.ref b1), .val (.int (1 : Int32)), .unset, .unset, .unset, .unset] [(.int (1 : Int32))] t
      refine XS.goto X33.here hx rfl (pc0 := 44) (pc' := 48) rfl (hb hby at_44) (by decide) (by decide) ?_
      show own_At p e below m T33 48 #[.val (.long p0), .second, .val (.long p1), .second, .val (.ref b1), .val (.int (1 : Int32)), .unset, .unset, .unset, .unset] [(.int (1 : Int32))] t
      refine XS.istore X33.here hx rfl (hb hby at_48) rfl (l' := #[.val (.long p0), .second, .val (.long p1), .second, .val (.ref b1), .val (.int (1 : Int32)), .val (.int (1 : Int32)), .unset, .unset, .unset]) rfl ?_
      show own_At p e below m T33 50 #[.val (.long p0), .second, .val (.long p1), .second, .val (.ref b1), .val (.int (1 : Int32)), .val (.int (1 : Int32)), .unset, .unset, .unset] [] t
      exact k
    exact J4 _ _  X33 hp33 N33 k34
  · obtain ⟨cq35, kq35, q35a, q35b, q35c⟩ := isOf hZ hp2 F1_0
    obtain ⟨_, _, ⟨T35, L35, k35, n35⟩, -, X35, ⟨Lc35, hQ35, l35, y35, z35⟩, st35⟩ := X2.virtualBack hx (y := own_m4) (z := own_m4) hown (mvT hZ (own_w hw 28 rfl)) (mvT hZ (own_w hw 29 rfl)) (notFace_of_selects (args := #[]) (mvT hZ (own_w hw 31 rfl))) (mvT hZ (own_w hw 31 rfl)) (mvT hZ (own_w hw 30 rfl)) (by decide) (backOf (W := 0) (rm_taken_f l Z a0 hw [] b1 p0 _ _ _ _ T1.heap n0 O1 hE F1_1 hc32) hZ (own_w hw 32 rfl) (own_w hw 2 rfl) (by decide) (by decide)) q35a q35c (g := (mkF m 26 #[.val (.long p0), .second, .val (.long p1), .second, .val (.ref b1), .val (.int (1 : Int32)), .unset, .unset, .unset, .unset] [(.ref b1)])) rfl (by rw [hml]; rfl) (Steps.refl _) (argsL := []) (rest := []) (lenOf pd___Z rfl) rfl (by show 2 * 0 + _ ≤ _; exact Nat.le_of_eq rfl) (hb hby at_26) (fun _ _ => ⟨rfl, hp2, (by decide : 1 + 0 ≤ _), (by decide : 3 + 0 ≤ _)⟩)
    dsimp only [Pt.U, Pt.locs, Pt.cells, Pt.slots] at X35 l35 y35 z35 st35 hQ35
    subst l35 y35 z35
    obtain ⟨rfl, N35q, hp35⟩ := hQ35
    have N35 := Fr.app N2 N35q
    have k36 : ∀ t, own_At p e below m T35 50 #[.val (.long p0), .second, .val (.long p1), .second, .val (.ref b1), .val (.int (1 : Int32)), .val (.int (1 : Int32)), .unset, .unset, .unset] [] t → own_En p e below m s₁ #[(.long p0), (.long p1)] maxLocals t := by
      intro t k
      refine k3 t ?_
      refine st35.trans ?_
      show own_At p e below m T35 29 #[.val (.long p0), .second, .val (.long p1), .second, .val (.ref b1), .val (.int (1 : Int32)), .unset, .unset, .unset, .unset] [(.int (0 : Int32))] t
      refine XS.lloadN X35.here hx rfl (hb hby at_29) rfl ?_
      show own_At p e below m T35 30 #[.val (.long p0), .second, .val (.long p1), .second, .val (.ref b1), .val (.int (1 : Int32)), .unset, .unset, .unset, .unset] [(.long p0), (.int (0 : Int32))] t
      refine XS.lconst X35.here hx rfl (hb hby at_30) ?_
      show own_At p e below m T35 31 #[.val (.long p0), .second, .val (.long p1), .second, .val (.ref b1), .val (.int (1 : Int32)), .unset, .unset, .unset, .unset] [(.long (0 : Int64)), (.long p0), (.int (0 : Int32))] t
      refine XS.lcmp X35.here hx rfl (hb hby at_31) rfl ?_
      show own_At p e below m T35 32 #[.val (.long p0), .second, .val (.long p1), .second, .val (.ref b1), .val (.int (1 : Int32)), .unset, .unset, .unset, .unset] [(.int (lcmpW p0 (0 : Int64))), (.int (0 : Int32))] t
      refine XS.ifYes X35.here hx rfl (pc0 := 32) (pc' := 39) rfl (hb hby at_32) rfl ((if0 _ _).trans (flt hc32).2.2.2) (by decide) (by decide) ?_
      show own_At p e below m T35 39 #[.val (.long p0), .second, .val (.long p1), .second, .val (.ref b1), .val (.int (1 : Int32)), .unset, .unset, .unset, .unset] [(.int (0 : Int32))] t
      refine XS.iconst X35.here hx rfl (hb hby at_39) ?_
      show own_At p e below m T35 40 #[.val (.long p0), .second, .val (.long p1), .second, .val (.ref b1), .val (.int (1 : Int32)), .unset, .unset, .unset, .unset] [(.int (0 : Int32)), (.int (0 : Int32))] t
      refine XS.icmpNo X35.here hx rfl (hb hby at_40) rfl (teq (by decide : (0 : Int32) = (0 : Int32))).2 ?_
      show own_At p e below m T35 43 #[.val (.long p0), .second, .val (.long p1), .second, .val (.ref b1), .val (.int (1 : Int32)), .unset, .unset, .unset, .unset] [] t
      refine XS.iconst X35.here hx rfl (hb hby at_43) ?_
      show own_At p e below m T35 44 #[.val (.long p0), .second, .val (.long p1), .second, .val (.ref b1), .val (.int (1 : Int32)), .unset, .unset, .unset, .unset] [(.int (1 : Int32))] t
      refine XS.goto X35.here hx rfl (pc0 := 44) (pc' := 48) rfl (hb hby at_44) (by decide) (by decide) ?_
      show own_At p e below m T35 48 #[.val (.long p0), .second, .val (.long p1), .second, .val (.ref b1), .val (.int (1 : Int32)), .unset, .unset, .unset, .unset] [(.int (1 : Int32))] t
      refine XS.istore X35.here hx rfl (hb hby at_48) rfl (l' := #[.val (.long p0), .second, .val (.long p1), .second, .val (.ref b1), .val (.int (1 : Int32)), .val (.int (1 : Int32)), .unset, .unset, .unset]) rfl ?_
      show own_At p e below m T35 50 #[.val (.long p0), .second, .val (.long p1), .second, .val (.ref b1), .val (.int (1 : Int32)), .val (.int (1 : Int32)), .unset, .unset, .unset] [] t
      exact k
    exact J4 _ _  X35 hp35 N35 k36
set_option maxRecDepth 65536 in
set_option maxHeartbeats 40000000 in
theorem comes_1 {Post : Tables → Env → Array Value → State → Outcome → State → Prop} (hpost : ∀ tb e args s v u, (limb_1_1.after args s (.returned v) u = true ∧ limb_1_2.after args s (.returned v) u = true ∧ True) → FrameEnd s (.returned v) u (Jvm.fieldLocs frame_1_writes args s ++ Jvm.arrayLocs frame_1_arrays args s ++ Jvm.staticLocs frame_1_statics s) 16 128 → Post tb e args s (.returned v) u) :
    ArmFor flags0 classFile x code maxLocals ret World_1 tables_1 room_1 Calls_1 rest_1 Pre_1 Post := by
  intro l hfl _ _ p e ha hc hk s m args below hf hA hF happ hP
  obtain ⟨hcalls, hrest, hpre⟩ := hP
  obtain ⟨-, -, -, hnamed, -, -, -, hat⟩ := (Spec.applies_iff hf).mp happ
  obtain ⟨hg, hn⟩ := and_e (Cond.before_iff.mp (show (Jvm.Cond.and given_1 narrow_1).before args s = true from hpre))
  obtain ⟨g0a, g0b⟩ := and_e hg
  obtain ⟨g1a, g1b⟩ := and_e g0b
  obtain ⟨w0, w1, rfl⟩ : ∃ w0 w1 : Value, args = #[w0, w1] := by
    have hs : args.size = 2 := by simpa [Cond.value, given_1] using g0a
    obtain ⟨L⟩ := args
    match L, hs with
    | [w0, w1], _ => exact ⟨w0, w1, rfl⟩
  have hw := fun d (hd : d ∈ tables_1) => atoms_spec (ws := Jvm.Cond.code x code maxLocals ret :: tables_1) hat d (List.mem_cons_of_mem _ hd)
  have hfit : Fit s := fun {y c} hc i hi => by
    obtain ⟨ha, rfl⟩ := Array.getElem?_eq_some_iff.mp hc
    have q := List.all_eq_true.mp ((Array.all_eq_true_iff_forall_mem.mp hF) _ (Array.getElem_mem ha)) i (List.mem_range.mpr hi)
    simpa [Array.getElem?_eq_getElem hi] using q
  obtain ⟨hsets, hown0⟩ := atoms_of _ (rest_1_c_eq ▸ (show rest_1_c.before _ s = true from hrest))
  obtain ⟨i0, ei0⟩ := isL_v g1a
  obtain rfl : w0 = (.long i0) := Option.some.inj ei0
  obtain ⟨i1, ei1⟩ := isL_v g1b
  obtain rfl : w1 = (.long i1) := Option.some.inj ei1
  obtain ⟨a_TRUE, v_a_TRUE⟩ := exa_v (Cond.before_iff.mp (hsets _ (List.mem_of_getElem? (i := 2) rfl)))
  have S_TRUE := Sta.start v_a_TRUE (Or.inr ⟨(own_w hw 8 rfl), hsets _ (List.mem_of_getElem? (i := 0) rfl)⟩)
  have E_TRUE := Exa.start v_a_TRUE (Cond.before_iff.mp (hsets _ (List.mem_of_getElem? (i := 2) rfl)))
  have F_TRUE_value := Fld.start ((fld_at v_a_TRUE).symm.trans (own_eqI (Cond.before_iff.mp (hsets _ (List.mem_of_getElem? (i := 3) rfl)))))
  obtain ⟨a_MILLISECONDS, v_a_MILLISECONDS⟩ := exa_v (Cond.before_iff.mp (hsets _ (List.mem_of_getElem? (i := 6) rfl)))
  have S_MILLISECONDS := Sta.start v_a_MILLISECONDS (Or.inr ⟨(own_w hw 52 rfl), hsets _ (List.mem_of_getElem? (i := 4) rfl)⟩)
  have E_MILLISECONDS := Exa.start v_a_MILLISECONDS (Cond.before_iff.mp (hsets _ (List.mem_of_getElem? (i := 6) rfl)))
  obtain ⟨a_MILLISECONDS_name, v_a_MILLISECONDS_name⟩ := exa_v (Cond.before_iff.mp (hsets _ (List.mem_of_getElem? (i := 7) rfl)))
  have F_MILLISECONDS_name := Fld.start ((fld_at v_a_MILLISECONDS).symm.trans v_a_MILLISECONDS_name)
  have E_MILLISECONDS_name := Exa.start v_a_MILLISECONDS_name (Cond.before_iff.mp (hsets _ (List.mem_of_getElem? (i := 7) rfl)))
  have F_MILLISECONDS_ordinal := Fld.start ((fld_at v_a_MILLISECONDS).symm.trans (own_eqI (Cond.before_iff.mp (hsets _ (List.mem_of_getElem? (i := 8) rfl)))))
  have F_MILLISECONDS_scale := Fld.start ((fld_at v_a_MILLISECONDS).symm.trans (own_eqJ (Cond.before_iff.mp (hsets _ (List.mem_of_getElem? (i := 9) rfl)))))
  have F_MILLISECONDS_maxNanos := Fld.start ((fld_at v_a_MILLISECONDS).symm.trans (own_eqJ (Cond.before_iff.mp (hsets _ (List.mem_of_getElem? (i := 10) rfl)))))
  have F_MILLISECONDS_microRatio := Fld.start ((fld_at v_a_MILLISECONDS).symm.trans (own_eqJ (Cond.before_iff.mp (hsets _ (List.mem_of_getElem? (i := 11) rfl)))))
  have F_MILLISECONDS_maxMicros := Fld.start ((fld_at v_a_MILLISECONDS).symm.trans (own_eqJ (Cond.before_iff.mp (hsets _ (List.mem_of_getElem? (i := 12) rfl)))))
  have F_MILLISECONDS_milliRatio := Fld.start ((fld_at v_a_MILLISECONDS).symm.trans (own_eqI (Cond.before_iff.mp (hsets _ (List.mem_of_getElem? (i := 13) rfl)))))
  have F_MILLISECONDS_maxMillis := Fld.start ((fld_at v_a_MILLISECONDS).symm.trans (own_eqJ (Cond.before_iff.mp (hsets _ (List.mem_of_getElem? (i := 14) rfl)))))
  have F_MILLISECONDS_secRatio := Fld.start ((fld_at v_a_MILLISECONDS).symm.trans (own_eqI (Cond.before_iff.mp (hsets _ (List.mem_of_getElem? (i := 15) rfl)))))
  have F_MILLISECONDS_maxSecs := Fld.start ((fld_at v_a_MILLISECONDS).symm.trans (own_eqJ (Cond.before_iff.mp (hsets _ (List.mem_of_getElem? (i := 16) rfl)))))
  obtain ⟨a_FALSE, v_a_FALSE⟩ := exa_v (Cond.before_iff.mp (hsets _ (List.mem_of_getElem? (i := 19) rfl)))
  have S_FALSE := Sta.start v_a_FALSE (Or.inr ⟨(own_w hw 8 rfl), hsets _ (List.mem_of_getElem? (i := 17) rfl)⟩)
  have E_FALSE := Exa.start v_a_FALSE (Cond.before_iff.mp (hsets _ (List.mem_of_getElem? (i := 19) rfl)))
  have F_FALSE_value := Fld.start ((fld_at v_a_FALSE).symm.trans (own_eqI (Cond.before_iff.mp (hsets _ (List.mem_of_getElem? (i := 20) rfl)))))
  obtain ⟨n, o, h1, h2, h3, _, L, rfl, ⟨rfl, N⟩, hq⟩ := rm_law l s _ hw tables_1 i0 i1 a_TRUE a_MILLISECONDS a_MILLISECONDS_name a_FALSE s.heap s.heap.size (Old.start s) ⟨S_TRUE, E_TRUE, F_TRUE_value, S_MILLISECONDS, E_MILLISECONDS, F_MILLISECONDS_name, E_MILLISECONDS_name, F_MILLISECONDS_ordinal, F_MILLISECONDS_scale, F_MILLISECONDS_maxNanos, F_MILLISECONDS_microRatio, F_MILLISECONDS_maxMicros, F_MILLISECONDS_milliRatio, F_MILLISECONDS_maxMillis, F_MILLISECONDS_secRatio, F_MILLISECONDS_maxSecs, S_FALSE, E_FALSE, F_FALSE_value⟩  p e ha hc hk s m _ below hf ((Spec.applies_iff_loose hf).mp happ).1 ⟨rfl, State.Warmed39.refl s, rfl⟩ trivial
  refine ⟨n, _, h1, h2, h3, hpost _ _ _ _ _ _ ⟨Cond.after_iff.mpr rfl, Cond.after_iff.mpr (eq_i res_at (Term.int_eval (1)) rfl), trivial⟩ ⟨hq.1, hq.2.1, (hq.2.2.sift fun y hy => Or.inr (N y hy)).mono (by decide) (by decide)⟩⟩
theorem main_1_1 : Claimed_1_1 := comes_1 fun _ _ _ _ _ _ h hF => ⟨h.1, hF⟩
theorem main_1_2 : Claimed_1_2 := comes_1 fun _ _ _ _ _ _ h hF => ⟨h.2.1, hF⟩
end Jvm.Pilot.@@N@@
namespace Jvm.Pilot.@@N@@
open Jvm Jvm.ClassFile Sem Op Lib Jvm.Free Jvm.Stand Jvm.Pilot.@@N@@.Jvm.D
/-! MADE BY PROGRAM (witnessworld.py) out of the Statement's table words and the real class files: 17 classes; the members and pool entries that the words name. The judged class is class 1, her method 2. -/
namespace start1
open Jvm.ClassFile
def u (s : String) : CpInfo := .utf8 (stringToUtf16 s)
/-- a pool by its gaps: so many unusable entries, then the entry; so many at the end -/
def gap : Nat → List CpInfo → List CpInfo
  | 0, r => r
  | n + 1, r => .unusable :: gap n r
def poolList (es : List (Nat × CpInfo)) (last : Nat) : List CpInfo := es.foldr (fun e r => gap e.1 (e.2 :: r)) (gap last [])
def pool (es : List (Nat × CpInfo)) (last : Nat) : Array CpInfo := ⟨poolList es last⟩
def fileOf (pool : Array CpInfo) (this : Nat) (attrs : Array Attribute := #[]) (ms : Array MethodInfo := #[]) (fl : Nat := 33) (sup : Nat := 0) (ifs : Array Nat := #[]) (fds : Array FieldInfo := #[]) : ClassFile where
  minorVersion := 0
  majorVersion := 65
  constantPool := pool
  accessFlags := fl
  thisClass := this
  superClass := sup
  interfaces := ifs
  fields := fds
  methods := ms
  attributes := attrs
def plain (name : String) (sup : Option ClassId) : Class where
  name := name
  kind := .ordinary
  loader := none
  accessFlags := 33
  super := sup
  interfaces := #[]
  cf := none
  fields := #[]
  methods := #[]
  instanceTypes := #[]
  staticTypes := #[]
  resolved := #[]
  callSites := []
  init := .initialized
  statics := none
  mirror := none

def pool0 : Array CpInfo := pool [(5, u "<init>"), (0, u "()V"), (1, .class_ 10), (1, u "java/lang/Object")] 113

def k0c0 : Code := { maxStack := 0, maxLocals := 1, code := object_method_1_code, exceptionTable := #[], attributes := #[] }
def k0m0 : Method := { name := "<init>", desc := "()V", sig := { parameters := [], returnType := none }, accessFlags := 1, code := some k0c0 }
/-- java/lang/Object -/
def k0 : Class := { plain "java/lang/Object" none with
  accessFlags := 33
  interfaces := #[]
  cf := some (fileOf pool0 8 #[] #[{ accessFlags := 1, nameIndex := 5, descriptorIndex := 6, attributes := #[] }] 33 0 #[] #[])
  fields := #[]
  methods := #[k0m0]
  instanceTypes := #[]
  staticTypes := #[]
  resolved := Array.replicate 124 none
  statics := none }

def pool1 : Array CpInfo := pool [(2, .class_ 4), (1, u "java/lang/Object"), (0, u "<init>"), (0, u "()V"), (2, .long 9223372036854775807), (1, .long 9223372036854), (1, .long 1000000), (1, .methodref 16 17), (0, .class_ 18), (0, .nameAndType 19 20), (0, u "com/example/plus1/plus1/Take"), (0, u "of"), (0, u "(JJ)Lcom/example/plus1/plus1/Take;"), (0, .methodref 16 22), (0, .nameAndType 23 24), (0, u "holds"), (0, u "()J"), (0, .methodref 16 26), (0, .nameAndType 27 28), (0, u "taken"), (0, u "()Z"), (0, .methodref 16 30), (0, .nameAndType 31 32), (0, u "heldBefore"), (0, u "()Ljava/lang/Boolean;"), (0, .methodref 34 35), (0, .class_ 36), (0, .nameAndType 37 28), (0, u "java/lang/Boolean"), (0, u "booleanValue"), (0, .methodref 16 39), (0, .nameAndType 40 24), (0, u "retryNanos"), (0, .methodref 42 43), (0, .class_ 44), (0, .nameAndType 45 46), (0, u "com/example/plus1/plus1/TakeOfPinLaw"), (0, u "expectedRetryNanos"), (0, u "(J)J"), (3, u "law"), (0, u "(JJ)Z")] 2

def k1m0 : Method := { name := "<init>", desc := "()V", sig := { parameters := [], returnType := none }, accessFlags := 2, code := none }
def k1c1 : Code := { maxStack := 4, maxLocals := 4, code := method_2_code, exceptionTable := #[], attributes := #[] }
def k1m1 : Method := { name := "expectedRetryNanos", desc := "(J)J", sig := { parameters := [.long], returnType := some .long }, accessFlags := 10, code := some k1c1 }
def k1c2 : Code := { maxStack := 5, maxLocals := 10, code := code, exceptionTable := #[], attributes := #[] }
def k1m2 : Method := { name := "law", desc := "(JJ)Z", sig := { parameters := [.long, .long], returnType := some .boolean }, accessFlags := 9, code := some k1c2 }
/-- com/example/plus1/plus1/TakeOfPinLaw -/
def k1 : Class := { plain "com/example/plus1/plus1/TakeOfPinLaw" (some 0) with
  accessFlags := 49
  interfaces := #[]
  cf := some (fileOf pool1 42 #[] #[{ accessFlags := 2, nameIndex := 5, descriptorIndex := 6, attributes := #[] }, { accessFlags := 10, nameIndex := 45, descriptorIndex := 46, attributes := #[] }, { accessFlags := 9, nameIndex := 50, descriptorIndex := 51, attributes := #[] }] 49 2 #[] #[])
  fields := #[]
  methods := #[k1m0, k1m1, k1m2]
  instanceTypes := #[]
  staticTypes := #[]
  resolved := Array.replicate 54 none
  statics := none }

def pool2 : Array CpInfo := pool [(1, .methodref 2 3), (0, .class_ 4), (0, .nameAndType 5 6), (0, u "java/lang/Object"), (0, u "<init>"), (0, u "()V"), (0, .fieldref 8 9), (0, .class_ 10), (0, .nameAndType 11 12), (0, u "com/example/plus1/plus1/Take"), (0, u "holds"), (0, u "J"), (0, .fieldref 8 14), (0, .nameAndType 15 12), (0, u "retryMillis"), (0, .fieldref 8 17), (0, .nameAndType 18 19), (0, u "heldBefore"), (0, u "Ljava/lang/Boolean;"), (11, u "()J"), (2, u "of"), (0, u "(JJ)Lcom/example/plus1/plus1/Take;"), (0, .methodref 37 38), (0, .class_ 39), (0, .nameAndType 40 41), (0, u "java/lang/Boolean"), (0, u "valueOf"), (0, u "(Z)Ljava/lang/Boolean;"), (0, .methodref 8 43), (0, .nameAndType 5 44), (0, u "(JJLjava/lang/Boolean;)V"), (0, .long 9223372036854775807), (1, .fieldref 48 49), (0, .class_ 50), (0, .nameAndType 51 52), (0, u "java/util/concurrent/TimeUnit"), (0, u "MILLISECONDS"), (0, u "Ljava/util/concurrent/TimeUnit;"), (0, .methodref 48 54), (0, .nameAndType 55 56), (0, u "toNanos"), (0, u "(J)J"), (7, u "taken"), (0, u "()Z"), (0, u "()Ljava/lang/Boolean;"), (0, u "retryNanos")] 2

def k2c0 : Code := { maxStack := 3, maxLocals := 6, code := prog_5_method_1_code, exceptionTable := #[], attributes := #[] }
def k2m0 : Method := { name := "<init>", desc := "(JJLjava/lang/Boolean;)V", sig := { parameters := [.long, .long, (.object "java/lang/Boolean")], returnType := none }, accessFlags := 2, code := some k2c0 }
def k2c1 : Code := { maxStack := 10, maxLocals := 4, code := prog_5_method_3_code, exceptionTable := #[], attributes := #[] }
def k2m1 : Method := { name := "of", desc := "(JJ)Lcom/example/plus1/plus1/Take;", sig := { parameters := [.long, .long], returnType := some (.object "com/example/plus1/plus1/Take") }, accessFlags := 8, code := some k2c1 }
def k2c2 : Code := { maxStack := 4, maxLocals := 1, code := prog_5_method_5_code, exceptionTable := #[], attributes := #[] }
def k2m2 : Method := { name := "taken", desc := "()Z", sig := { parameters := [], returnType := some .boolean }, accessFlags := 0, code := some k2c2 }
def k2c3 : Code := { maxStack := 2, maxLocals := 1, code := prog_5_method_6_code, exceptionTable := #[], attributes := #[] }
def k2m3 : Method := { name := "holds", desc := "()J", sig := { parameters := [], returnType := some .long }, accessFlags := 0, code := some k2c3 }
def k2c4 : Code := { maxStack := 1, maxLocals := 1, code := prog_5_method_7_code, exceptionTable := #[], attributes := #[] }
def k2m4 : Method := { name := "heldBefore", desc := "()Ljava/lang/Boolean;", sig := { parameters := [], returnType := some (.object "java/lang/Boolean") }, accessFlags := 0, code := some k2c4 }
def k2c5 : Code := { maxStack := 5, maxLocals := 1, code := prog_5_method_8_code, exceptionTable := #[], attributes := #[] }
def k2m5 : Method := { name := "retryNanos", desc := "()J", sig := { parameters := [], returnType := some .long }, accessFlags := 0, code := some k2c5 }
/-- com/example/plus1/plus1/Take -/
def k2 : Class := { plain "com/example/plus1/plus1/Take" (some 0) with
  accessFlags := 48
  interfaces := #[]
  cf := some (fileOf pool2 8 #[] #[{ accessFlags := 2, nameIndex := 5, descriptorIndex := 44, attributes := #[] }, { accessFlags := 8, nameIndex := 34, descriptorIndex := 35, attributes := #[] }, { accessFlags := 0, nameIndex := 64, descriptorIndex := 65, attributes := #[] }, { accessFlags := 0, nameIndex := 11, descriptorIndex := 31, attributes := #[] }, { accessFlags := 0, nameIndex := 18, descriptorIndex := 66, attributes := #[] }, { accessFlags := 0, nameIndex := 67, descriptorIndex := 31, attributes := #[] }] 48 2 #[] #[{ accessFlags := 18, nameIndex := 11, descriptorIndex := 12, attributes := #[] }, { accessFlags := 18, nameIndex := 15, descriptorIndex := 12, attributes := #[] }, { accessFlags := 18, nameIndex := 18, descriptorIndex := 19, attributes := #[] }])
  fields := #[{ name := "holds", type := .long, accessFlags := 18, slot := 0, constantValue := 0 }, { name := "retryMillis", type := .long, accessFlags := 18, slot := 1, constantValue := 0 }, { name := "heldBefore", type := (.object "java/lang/Boolean"), accessFlags := 18, slot := 2, constantValue := 0 }]
  methods := #[k2m0, k2m1, k2m2, k2m3, k2m4, k2m5]
  instanceTypes := #[.long, .long, (.object "java/lang/Boolean")]
  staticTypes := #[]
  resolved := Array.replicate 70 none
  statics := none }

def pool3 : Array CpInfo := pool [(1, .class_ 2), (0, u "java/io/Serializable"), (0, .class_ 4), (0, u "java/lang/Object")] 2

/-- java/io/Serializable -/
def k3 : Class := { plain "java/io/Serializable" (some 0) with
  accessFlags := 1537
  interfaces := #[]
  cf := some (fileOf pool3 1 #[] #[] 1537 3 #[] #[])
  fields := #[]
  methods := #[]
  instanceTypes := #[]
  staticTypes := #[]
  resolved := Array.replicate 7 none
  statics := none }

def pool4 : Array CpInfo := pool [(1, .class_ 2), (0, u "java/lang/Comparable"), (0, .class_ 4), (0, u "java/lang/Object")] 7

/-- java/lang/Comparable -/
def k4 : Class := { plain "java/lang/Comparable" (some 0) with
  accessFlags := 1537
  interfaces := #[]
  cf := some (fileOf pool4 1 #[] #[] 1537 3 #[] #[])
  fields := #[]
  methods := #[]
  instanceTypes := #[]
  staticTypes := #[]
  resolved := Array.replicate 12 none
  statics := none }

def pool5 : Array CpInfo := pool [(1, .class_ 2), (0, u "java/lang/constant/Constable"), (0, .class_ 4), (0, u "java/lang/Object")] 6

/-- java/lang/constant/Constable -/
def k5 : Class := { plain "java/lang/constant/Constable" (some 0) with
  accessFlags := 1537
  interfaces := #[]
  cf := some (fileOf pool5 1 #[] #[] 1537 3 #[] #[])
  fields := #[]
  methods := #[]
  instanceTypes := #[]
  staticTypes := #[]
  resolved := Array.replicate 11 none
  statics := none }

def pool6 : Array CpInfo := pool [(2, .class_ 4), (1, u "java/lang/Object"), (2, .fieldref 8 9), (0, .class_ 10), (0, .nameAndType 11 12), (0, u "java/lang/Boolean"), (0, u "value"), (0, u "Z"), (14, .fieldref 8 28), (0, .nameAndType 29 30), (0, u "TRUE"), (0, u "Ljava/lang/Boolean;"), (0, .fieldref 8 32), (0, .nameAndType 33 30), (0, u "FALSE"), (2, u "valueOf"), (7, u "booleanValue"), (0, u "()Z"), (41, u "TYPE"), (0, u "Ljava/lang/Class;"), (0, .class_ 90), (0, u "java/io/Serializable"), (0, .class_ 92), (0, u "java/lang/Comparable"), (0, .class_ 94), (0, u "java/lang/constant/Constable"), (2, u "serialVersionUID"), (0, u "J"), (18, u "(Z)Ljava/lang/Boolean;")] 34

def k6c0 : Code := { maxStack := 1, maxLocals := 1, code := jdk_2055_method_4_code, exceptionTable := #[], attributes := #[] }
def k6m0 : Method := { name := "booleanValue", desc := "()Z", sig := { parameters := [], returnType := some .boolean }, accessFlags := 1, code := some k6c0 }
def k6c1 : Code := { maxStack := 1, maxLocals := 1, code := jdk_2055_method_5_code, exceptionTable := #[], attributes := #[] }
def k6m1 : Method := { name := "valueOf", desc := "(Z)Ljava/lang/Boolean;", sig := { parameters := [.boolean], returnType := some (.object "java/lang/Boolean") }, accessFlags := 9, code := some k6c1 }
/-- java/lang/Boolean -/
def k6 : Class := { plain "java/lang/Boolean" (some 0) with
  accessFlags := 49
  interfaces := #[3, 4, 5]
  cf := some (fileOf pool6 8 #[] #[{ accessFlags := 1, nameIndex := 44, descriptorIndex := 45, attributes := #[] }, { accessFlags := 9, nameIndex := 36, descriptorIndex := 117, attributes := #[] }] 49 2 #[89, 91, 93] #[{ accessFlags := 25, nameIndex := 29, descriptorIndex := 30, attributes := #[] }, { accessFlags := 25, nameIndex := 33, descriptorIndex := 30, attributes := #[] }, { accessFlags := 25, nameIndex := 87, descriptorIndex := 88, attributes := #[] }, { accessFlags := 18, nameIndex := 11, descriptorIndex := 12, attributes := #[] }, { accessFlags := 26, nameIndex := 97, descriptorIndex := 98, attributes := #[] }])
  fields := #[{ name := "TRUE", type := (.object "java/lang/Boolean"), accessFlags := 25, slot := 0, constantValue := 0 }, { name := "FALSE", type := (.object "java/lang/Boolean"), accessFlags := 25, slot := 1, constantValue := 0 }, { name := "TYPE", type := (.object "java/lang/Class"), accessFlags := 25, slot := 2, constantValue := 0 }, { name := "value", type := .boolean, accessFlags := 18, slot := 0, constantValue := 0 }, { name := "serialVersionUID", type := .long, accessFlags := 26, slot := 3, constantValue := 0 }]
  methods := #[k6m0, k6m1]
  instanceTypes := #[.boolean]
  staticTypes := #[(.object "java/lang/Boolean"), (.object "java/lang/Boolean"), (.object "java/lang/Class"), .long]
  resolved := Array.replicate 152 none
  statics := some 0 }

def pool7 : Array CpInfo := pool [(2, .class_ 4), (1, u "java/lang/Enum"), (0, u "name"), (0, u "Ljava/lang/String;"), (2, u "ordinal"), (0, u "I"), (1, .class_ 14), (1, u "java/lang/Object"), (4, u "hash"), (86, .class_ 108), (1, u "java/lang/Enum$EnumDesc"), (2, .class_ 112), (0, u "java/lang/constant/Constable"), (0, .class_ 114), (0, u "java/lang/Comparable"), (0, .class_ 116), (0, u "java/io/Serializable")] 87

/-- java/lang/Enum -/
def k7 : Class := { plain "java/lang/Enum" (some 0) with
  accessFlags := 1057
  interfaces := #[5, 4, 3]
  cf := some (fileOf pool7 2 #[.nestMembers #[106]] #[] 1057 12 #[111, 113, 115] #[{ accessFlags := 18, nameIndex := 5, descriptorIndex := 6, attributes := #[] }, { accessFlags := 18, nameIndex := 9, descriptorIndex := 10, attributes := #[] }, { accessFlags := 2, nameIndex := 19, descriptorIndex := 10, attributes := #[] }])
  fields := #[{ name := "name", type := (.object "java/lang/String"), accessFlags := 18, slot := 0, constantValue := 0 }, { name := "ordinal", type := .int, accessFlags := 18, slot := 1, constantValue := 0 }, { name := "hash", type := .int, accessFlags := 2, slot := 2, constantValue := 0 }]
  methods := #[]
  instanceTypes := #[(.object "java/lang/String"), .int, .int]
  staticTypes := #[]
  resolved := Array.replicate 204 none
  statics := none }

def pool8 : Array CpInfo := pool [(1, .class_ 2), (0, u "java/util/concurrent/TimeUnit"), (2, u "NANOSECONDS"), (0, u "Ljava/util/concurrent/TimeUnit;"), (2, u "MICROSECONDS"), (2, u "MILLISECONDS"), (2, u "SECONDS"), (2, u "MINUTES"), (2, u "HOURS"), (2, u "DAYS"), (2, u "$VALUES"), (0, u "[Ljava/util/concurrent/TimeUnit;"), (6, .class_ 37), (1, u "java/lang/Enum"), (6, .fieldref 1 45), (0, .nameAndType 46 47), (0, u "scale"), (0, u "J"), (2, .long 9223372036854775807), (1, .fieldref 1 53), (0, .nameAndType 54 47), (0, u "maxNanos"), (4, u "microRatio"), (2, u "maxMicros"), (4, u "milliRatio"), (0, u "I"), (2, u "maxMillis"), (4, u "secRatio"), (2, u "maxSecs"), (8, u "toNanos"), (0, u "(J)J"), (73, .class_ 165), (1, u "java/util/concurrent/TimeUnit$1"), (46, u "NANO_SCALE"), (3, u "MICRO_SCALE"), (0, u "MILLI_SCALE"), (0, u "SECOND_SCALE"), (0, u "MINUTE_SCALE"), (0, u "HOUR_SCALE"), (0, u "DAY_SCALE")] 61

def k8c0 : Code := { maxStack := 6, maxLocals := 7, code := jdk_2799_method_7_code, exceptionTable := #[], attributes := #[] }
def k8m0 : Method := { name := "toNanos", desc := "(J)J", sig := { parameters := [.long], returnType := some .long }, accessFlags := 1, code := some k8c0 }
/-- java/util/concurrent/TimeUnit -/
def k8 : Class := { plain "java/util/concurrent/TimeUnit" (some 7) with
  accessFlags := 16433
  interfaces := #[]
  cf := some (fileOf pool8 1 #[.nestMembers #[163]] #[{ accessFlags := 1, nameIndex := 88, descriptorIndex := 89, attributes := #[] }] 16433 35 #[] #[{ accessFlags := 16409, nameIndex := 5, descriptorIndex := 6, attributes := #[] }, { accessFlags := 16409, nameIndex := 9, descriptorIndex := 6, attributes := #[] }, { accessFlags := 16409, nameIndex := 12, descriptorIndex := 6, attributes := #[] }, { accessFlags := 16409, nameIndex := 15, descriptorIndex := 6, attributes := #[] }, { accessFlags := 16409, nameIndex := 18, descriptorIndex := 6, attributes := #[] }, { accessFlags := 16409, nameIndex := 21, descriptorIndex := 6, attributes := #[] }, { accessFlags := 16409, nameIndex := 24, descriptorIndex := 6, attributes := #[] }, { accessFlags := 26, nameIndex := 212, descriptorIndex := 47, attributes := #[] }, { accessFlags := 26, nameIndex := 216, descriptorIndex := 47, attributes := #[] }, { accessFlags := 26, nameIndex := 217, descriptorIndex := 47, attributes := #[] }, { accessFlags := 26, nameIndex := 218, descriptorIndex := 47, attributes := #[] }, { accessFlags := 26, nameIndex := 219, descriptorIndex := 47, attributes := #[] }, { accessFlags := 26, nameIndex := 220, descriptorIndex := 47, attributes := #[] }, { accessFlags := 26, nameIndex := 221, descriptorIndex := 47, attributes := #[] }, { accessFlags := 18, nameIndex := 46, descriptorIndex := 47, attributes := #[] }, { accessFlags := 18, nameIndex := 54, descriptorIndex := 47, attributes := #[] }, { accessFlags := 18, nameIndex := 62, descriptorIndex := 47, attributes := #[] }, { accessFlags := 18, nameIndex := 71, descriptorIndex := 47, attributes := #[] }, { accessFlags := 18, nameIndex := 79, descriptorIndex := 47, attributes := #[] }, { accessFlags := 18, nameIndex := 59, descriptorIndex := 47, attributes := #[] }, { accessFlags := 18, nameIndex := 67, descriptorIndex := 68, attributes := #[] }, { accessFlags := 18, nameIndex := 76, descriptorIndex := 68, attributes := #[] }, { accessFlags := 4122, nameIndex := 27, descriptorIndex := 28, attributes := #[] }])
  fields := #[{ name := "NANOSECONDS", type := (.object "java/util/concurrent/TimeUnit"), accessFlags := 16409, slot := 0, constantValue := 0 }, { name := "MICROSECONDS", type := (.object "java/util/concurrent/TimeUnit"), accessFlags := 16409, slot := 1, constantValue := 0 }, { name := "MILLISECONDS", type := (.object "java/util/concurrent/TimeUnit"), accessFlags := 16409, slot := 2, constantValue := 0 }, { name := "SECONDS", type := (.object "java/util/concurrent/TimeUnit"), accessFlags := 16409, slot := 3, constantValue := 0 }, { name := "MINUTES", type := (.object "java/util/concurrent/TimeUnit"), accessFlags := 16409, slot := 4, constantValue := 0 }, { name := "HOURS", type := (.object "java/util/concurrent/TimeUnit"), accessFlags := 16409, slot := 5, constantValue := 0 }, { name := "DAYS", type := (.object "java/util/concurrent/TimeUnit"), accessFlags := 16409, slot := 6, constantValue := 0 }, { name := "NANO_SCALE", type := .long, accessFlags := 26, slot := 7, constantValue := 0 }, { name := "MICRO_SCALE", type := .long, accessFlags := 26, slot := 8, constantValue := 0 }, { name := "MILLI_SCALE", type := .long, accessFlags := 26, slot := 9, constantValue := 0 }, { name := "SECOND_SCALE", type := .long, accessFlags := 26, slot := 10, constantValue := 0 }, { name := "MINUTE_SCALE", type := .long, accessFlags := 26, slot := 11, constantValue := 0 }, { name := "HOUR_SCALE", type := .long, accessFlags := 26, slot := 12, constantValue := 0 }, { name := "DAY_SCALE", type := .long, accessFlags := 26, slot := 13, constantValue := 0 }, { name := "scale", type := .long, accessFlags := 18, slot := 3, constantValue := 0 }, { name := "maxNanos", type := .long, accessFlags := 18, slot := 4, constantValue := 0 }, { name := "maxMicros", type := .long, accessFlags := 18, slot := 5, constantValue := 0 }, { name := "maxMillis", type := .long, accessFlags := 18, slot := 6, constantValue := 0 }, { name := "maxSecs", type := .long, accessFlags := 18, slot := 7, constantValue := 0 }, { name := "microRatio", type := .long, accessFlags := 18, slot := 8, constantValue := 0 }, { name := "milliRatio", type := .int, accessFlags := 18, slot := 9, constantValue := 0 }, { name := "secRatio", type := .int, accessFlags := 18, slot := 10, constantValue := 0 }, { name := "$VALUES", type := (.array (.object "java/util/concurrent/TimeUnit")), accessFlags := 4122, slot := 14, constantValue := 0 }]
  methods := #[k8m0]
  instanceTypes := #[(.object "java/lang/String"), .int, .int, .long, .long, .long, .long, .long, .long, .int, .int]
  staticTypes := #[(.object "java/util/concurrent/TimeUnit"), (.object "java/util/concurrent/TimeUnit"), (.object "java/util/concurrent/TimeUnit"), (.object "java/util/concurrent/TimeUnit"), (.object "java/util/concurrent/TimeUnit"), (.object "java/util/concurrent/TimeUnit"), (.object "java/util/concurrent/TimeUnit"), .long, .long, .long, .long, .long, .long, .long, (.array (.object "java/util/concurrent/TimeUnit"))]
  resolved := Array.replicate 283 none
  statics := some 1 }

def pool9 : Array CpInfo := pool [(2, .class_ 4), (1, u "java/lang/CharSequence"), (42, .class_ 48), (0, u "java/lang/CharSequence$1CodePointIterator"), (10, .class_ 60), (0, u "java/lang/CharSequence$1CharIterator"), (5, .class_ 67), (0, u "java/lang/Object")] 63

/-- java/lang/CharSequence -/
def k9 : Class := { plain "java/lang/CharSequence" (some 0) with
  accessFlags := 1537
  interfaces := #[]
  cf := some (fileOf pool9 2 #[.nestMembers #[47, 59]] #[] 1537 66 #[] #[])
  fields := #[]
  methods := #[]
  instanceTypes := #[]
  staticTypes := #[]
  resolved := Array.replicate 131 none
  statics := none }

def pool10 : Array CpInfo := pool [(1, .class_ 2), (0, u "java/lang/constant/ConstantDesc"), (0, .class_ 4), (0, u "java/lang/Object")] 32

/-- java/lang/constant/ConstantDesc -/
def k10 : Class := { plain "java/lang/constant/ConstantDesc" (some 0) with
  accessFlags := 1537
  interfaces := #[]
  cf := some (fileOf pool10 1 #[] #[] 1537 3 #[] #[])
  fields := #[]
  methods := #[]
  instanceTypes := #[]
  staticTypes := #[]
  resolved := Array.replicate 37 none
  statics := none }

def pool11 : Array CpInfo := pool [(2, .class_ 4), (1, u "java/lang/Object"), (0, u "<init>"), (0, u "()V"), (3, .class_ 12), (1, u "java/lang/String"), (0, u "value"), (0, u "[B"), (2, u "coder"), (0, u "B"), (2, u "hash"), (0, u "I"), (2, u "hashIsZero"), (0, u "Z"), (13, u "COMPACT_STRINGS"), (534, .class_ 576), (0, u "java/lang/CharSequence"), (22, u "CASE_INSENSITIVE_ORDER"), (0, u "Ljava/util/Comparator;"), (500, u "serialPersistentFields"), (0, u "[Ljava/io/ObjectStreamField;"), (0, .class_ 1104), (0, u "java/lang/String$CaseInsensitiveComparator"), (1, .class_ 1107), (0, u "java/io/Serializable"), (0, .class_ 1109), (0, u "java/lang/Comparable"), (0, .class_ 1111), (0, u "java/lang/constant/Constable"), (0, .class_ 1113), (0, u "java/lang/constant/ConstantDesc"), (2, u "serialVersionUID"), (0, u "J"), (3, u "REPL"), (0, u "C"), (2, u "LATIN1"), (1, u "UTF16")] 323

def k11m0 : Method := { name := "<init>", desc := "()V", sig := { parameters := [], returnType := none }, accessFlags := 1, code := none }
/-- java/lang/String -/
def k11 : Class := { plain "java/lang/String" (some 0) with
  accessFlags := 49
  interfaces := #[3, 4, 9, 5, 10]
  cf := some (fileOf pool11 10 #[.nestMembers #[1103]] #[{ accessFlags := 1, nameIndex := 5, descriptorIndex := 6, attributes := #[] }] 49 2 #[1106, 1108, 575, 1110, 1112] #[{ accessFlags := 18, nameIndex := 13, descriptorIndex := 14, attributes := #[] }, { accessFlags := 18, nameIndex := 17, descriptorIndex := 18, attributes := #[] }, { accessFlags := 2, nameIndex := 21, descriptorIndex := 22, attributes := #[] }, { accessFlags := 2, nameIndex := 25, descriptorIndex := 26, attributes := #[] }, { accessFlags := 26, nameIndex := 1116, descriptorIndex := 1117, attributes := #[] }, { accessFlags := 24, nameIndex := 40, descriptorIndex := 26, attributes := #[] }, { accessFlags := 26, nameIndex := 1101, descriptorIndex := 1102, attributes := #[] }, { accessFlags := 26, nameIndex := 1121, descriptorIndex := 1122, attributes := #[] }, { accessFlags := 25, nameIndex := 599, descriptorIndex := 600, attributes := #[] }, { accessFlags := 24, nameIndex := 1125, descriptorIndex := 18, attributes := #[] }, { accessFlags := 24, nameIndex := 1127, descriptorIndex := 18, attributes := #[] }])
  fields := #[{ name := "value", type := (.array .byte), accessFlags := 18, slot := 0, constantValue := 0 }, { name := "coder", type := .byte, accessFlags := 18, slot := 1, constantValue := 0 }, { name := "hash", type := .int, accessFlags := 2, slot := 2, constantValue := 0 }, { name := "hashIsZero", type := .boolean, accessFlags := 2, slot := 3, constantValue := 0 }, { name := "serialVersionUID", type := .long, accessFlags := 26, slot := 0, constantValue := 0 }, { name := "COMPACT_STRINGS", type := .boolean, accessFlags := 24, slot := 1, constantValue := 0 }, { name := "serialPersistentFields", type := (.array (.object "java/io/ObjectStreamField")), accessFlags := 26, slot := 2, constantValue := 0 }, { name := "REPL", type := .char, accessFlags := 26, slot := 3, constantValue := 0 }, { name := "CASE_INSENSITIVE_ORDER", type := (.object "java/util/Comparator"), accessFlags := 25, slot := 4, constantValue := 0 }, { name := "LATIN1", type := .byte, accessFlags := 24, slot := 5, constantValue := 0 }, { name := "UTF16", type := .byte, accessFlags := 24, slot := 6, constantValue := 0 }]
  methods := #[k11m0]
  instanceTypes := #[(.array .byte), .byte, .int, .boolean]
  staticTypes := #[.long, .boolean, (.array (.object "java/io/ObjectStreamField")), .char, (.object "java/util/Comparator"), .byte, .byte]
  resolved := Array.replicate 1451 none
  statics := none }

def pool12 : Array CpInfo := pool [(1, u "java/lang/Cloneable"), (0, .class_ 1), (0, u "java/lang/Object"), (0, .class_ 3)] 3

/-- java/lang/Cloneable -/
def k12 : Class := { plain "java/lang/Cloneable" (some 0) with
  accessFlags := 1537
  interfaces := #[]
  cf := some (fileOf pool12 2 #[] #[] 1537 4 #[] #[])
  fields := #[]
  methods := #[]
  instanceTypes := #[]
  staticTypes := #[]
  resolved := Array.replicate 8 none
  statics := none }

/-- the primitive byte -/
def k13 : Class := { plain "byte" none with kind := .primitive 'B', accessFlags := 0x411 }
/-- [B -/
def k14 : Class := { plain "[B" (some 0) with kind := .array 13 .byte, interfaces := #[12, 3], accessFlags := 1041 }

/-- the primitive int -/
def k15 : Class := { plain "int" none with kind := .primitive 'I', accessFlags := 0x411 }
/-- [I -/
def k16 : Class := { plain "[I" (some 0) with kind := .array 15 .int, interfaces := #[12, 3], accessFlags := 1041 }

def heap : Heap := #[{ cls := 6, slots := #[.ref 2, .ref 5, .null, .long 0], vm := .statics 6 },
  { cls := 8, slots := #[.null, .null, .ref 3, .null, .null, .null, .null, .long 0, .long 0, .long 0, .long 0, .long 0, .long 0, .long 0, .null], vm := .statics 8 },
  { cls := 6, slots := #[.int 1], vm := .none },
  { cls := 8, slots := #[.ref 4, .int 2, .int 0, .long 1000000, .long 9223372036854, .long 9223372036854775, .long 9223372036854775807, .long 9223372036854775, .long 1000, .int 1, .int 1000], vm := .none },
  { cls := 11, slots := #[.null, .int 0, .int 0, .int 0], vm := .none },
  { cls := 6, slots := #[.int 0], vm := .none }]
def classes : Array Class := #[k0, k1, k2, k3, k4, k5, k6, k7, k8, k9, k10, k11, k12, k13, k14, k15, k16]
def interned : List (Array UInt16 × Addr) := []
def slotsUsed : Nat := 36
def theMethod : MethodId := ⟨1, 2⟩
def args0 : Array Value := #[.long 5, .long 3]
def aboutOver (below : List Frame) : State where
  vm := { classes := classes, interned := interned.toArray }
  heap := heap
  slotsUsed := slotsUsed
  threads := #[{ frames := .invoking theMethod args0 :: below }]
def below0 : List Frame := [.native { method := ⟨0, 0⟩, args := #[] }]
def about1 : State := aboutOver below0
def p0 : Program := .bare "" "" ""
def e0 : Env := launch0.env 0 0 0
theorem w_frames : about1.frames = Frame.invoking theMethod args0 :: below0 := rfl
set_option maxRecDepth 65536 in
theorem w_args : argsFit about1.vm theMethod args0 = true := by decide +kernel
set_option maxRecDepth 65536 in
theorem w_heap : heapFits about1 = true := by decide +kernel
set_option maxRecDepth 65536 in
theorem w_runnable : about1.curStatus? = some .runnable := by decide +kernel
set_option maxRecDepth 65536 in
theorem w_alone : about1.alone = true := by decide +kernel
set_option maxRecDepth 65536 in
theorem w_named : about1.methodNamed? x = some theMethod := by decide +kernel
set_option maxRecDepth 65536 in
theorem w_hears : about1.hears theMethod below0 = true := by decide +kernel
set_option maxRecDepth 65536 in
theorem w_ripe : about1.ripe theMethod args0 below0 = true := by decide +kernel
theorem w_running : about1.status = .running := rfl
set_option maxRecDepth 65536 in
theorem w_room : about1.hasRoom e0.platform room_1 = true :=
  launch0.hasRoom_least _ room_1 (by decide +kernel) (by decide +kernel) (by decide +kernel) (by decide +kernel) (by decide +kernel) (by decide +kernel)
theorem allAtoms_all (ts : List Jvm.Cond) (a : Array Jvm.Value) (st : Jvm.State) : (allAtoms ts).before a st = ts.all (fun c => c.before a st) := by
  induction ts with
  | nil => rfl
  | cons c t ih =>
    show (Jvm.Cond.and c (allAtoms t)).before a st = _
    rw [Jvm.Cond.before_and, ih, List.all_cons]
def words1 : List Jvm.Cond := Jvm.Cond.code x code maxLocals ret :: tables_1
/-- a 'code' word, met by the world's own term for the bytes: nothing is compared byte by byte -/
theorem code_word {y : MethodName} {bytes : ByteArray} {mx : Nat} {rt : Option FieldType} {a : Array Value} {s : State} {m : MethodId} {meth : Method} {c : Code} (h1 : s.methodNamed? y = some m) (h2 : s.vm.method? m = some meth) (h3 : meth.code = some c) (h4 : c.code = bytes)
    (h5 : (c.maxLocals == mx && c.exceptionTable.isEmpty && decide (c.maxStack ≤ mostOperands) && decide (meth.sig.returnType = rt) && !meth.locks && decide (parseMethodDescriptor y.desc = some meth.sig)) = true) : (Jvm.Cond.code y bytes mx rt).before a s = true := by
  simp only [Bool.and_eq_true, beq_iff_eq, Bool.not_eq_true', decide_eq_true_eq] at h5
  obtain ⟨⟨⟨⟨⟨g1, g2⟩, g3⟩, g4⟩, g5⟩, g6⟩ := h5
  simp [Cond.before, Cond.holds, Cond.value, h1, h2, h3, h4, g1, g2, g3, g4, g5, g6]
def isCode : Jvm.Cond → Bool
  | .code _ _ _ _ => true
  | _ => false
theorem all_split {L : List Jvm.Cond} {P : Jvm.Cond → Bool} (h1 : L.all (fun c => isCode c || P c) = true) (h2 : ∀ c ∈ L.filter isCode, P c = true) : L.all P = true := by
  refine List.all_eq_true.mpr fun c hc => ?_
  have h := List.all_eq_true.mp h1 c hc
  rcases Bool.eq_false_or_eq_true (isCode c) with hi | hi
  · exact h2 c (List.mem_filter.mpr ⟨hc, hi⟩)
  · simpa [hi] using h
set_option maxRecDepth 65536 in
theorem w_c0 : (Jvm.Cond.code x code maxLocals ret).before args0 about1 = true := code_word (m := ⟨1, 2⟩) (meth := k1m2) (c := k1c2) (by decide +kernel) rfl rfl rfl (by decide +kernel)
set_option maxRecDepth 65536 in
theorem w_c1 : (Jvm.Cond.code ({ cls := "com/example/plus1/plus1/Take", name := "of", desc := "(JJ)Lcom/example/plus1/plus1/Take;" } : Jvm.MethodName) prog_5_method_3_code (4 : Nat) (Option.some (Jvm.ClassFile.FieldType.object "com/example/plus1/plus1/Take"))).before args0 about1 = true := code_word (m := ⟨2, 1⟩) (meth := k2m1) (c := k2c1) (by decide +kernel) rfl rfl rfl (by decide +kernel)
set_option maxRecDepth 65536 in
theorem w_c2 : (Jvm.Cond.code ({ cls := "java/lang/Boolean", name := "valueOf", desc := "(Z)Ljava/lang/Boolean;" } : Jvm.MethodName) jdk_2055_method_5_code (1 : Nat) (Option.some (Jvm.ClassFile.FieldType.object "java/lang/Boolean"))).before args0 about1 = true := code_word (m := ⟨6, 1⟩) (meth := k6m1) (c := k6c1) (by decide +kernel) rfl rfl rfl (by decide +kernel)
set_option maxRecDepth 65536 in
theorem w_c3 : (Jvm.Cond.code ({ cls := "com/example/plus1/plus1/Take", name := "<init>", desc := "(JJLjava/lang/Boolean;)V" } : Jvm.MethodName) prog_5_method_1_code (6 : Nat) (Option.none : Option Jvm.ClassFile.FieldType)).before args0 about1 = true := code_word (m := ⟨2, 0⟩) (meth := k2m0) (c := k2c0) (by decide +kernel) rfl rfl rfl (by decide +kernel)
set_option maxRecDepth 65536 in
theorem w_c4 : (Jvm.Cond.code ({ cls := "java/lang/Object", name := "<init>", desc := "()V" } : Jvm.MethodName) object_method_1_code (1 : Nat) (Option.none : Option Jvm.ClassFile.FieldType)).before args0 about1 = true := code_word (m := ⟨0, 0⟩) (meth := k0m0) (c := k0c0) (by decide +kernel) rfl rfl rfl (by decide +kernel)
set_option maxRecDepth 65536 in
theorem w_c5 : (Jvm.Cond.code ({ cls := "com/example/plus1/plus1/Take", name := "holds", desc := "()J" } : Jvm.MethodName) prog_5_method_6_code (1 : Nat) (Option.some Jvm.ClassFile.FieldType.long)).before args0 about1 = true := code_word (m := ⟨2, 3⟩) (meth := k2m3) (c := k2c3) (by decide +kernel) rfl rfl rfl (by decide +kernel)
set_option maxRecDepth 65536 in
theorem w_c6 : (Jvm.Cond.code ({ cls := "com/example/plus1/plus1/Take", name := "taken", desc := "()Z" } : Jvm.MethodName) prog_5_method_5_code (1 : Nat) (Option.some Jvm.ClassFile.FieldType.boolean)).before args0 about1 = true := code_word (m := ⟨2, 2⟩) (meth := k2m2) (c := k2c2) (by decide +kernel) rfl rfl rfl (by decide +kernel)
set_option maxRecDepth 65536 in
theorem w_c7 : (Jvm.Cond.code ({ cls := "com/example/plus1/plus1/Take", name := "heldBefore", desc := "()Ljava/lang/Boolean;" } : Jvm.MethodName) prog_5_method_7_code (1 : Nat) (Option.some (Jvm.ClassFile.FieldType.object "java/lang/Boolean"))).before args0 about1 = true := code_word (m := ⟨2, 4⟩) (meth := k2m4) (c := k2c4) (by decide +kernel) rfl rfl rfl (by decide +kernel)
set_option maxRecDepth 65536 in
theorem w_c8 : (Jvm.Cond.code ({ cls := "java/lang/Boolean", name := "booleanValue", desc := "()Z" } : Jvm.MethodName) jdk_2055_method_4_code (1 : Nat) (Option.some Jvm.ClassFile.FieldType.boolean)).before args0 about1 = true := code_word (m := ⟨6, 0⟩) (meth := k6m0) (c := k6c0) (by decide +kernel) rfl rfl rfl (by decide +kernel)
set_option maxRecDepth 65536 in
theorem w_c9 : (Jvm.Cond.code ({ cls := "com/example/plus1/plus1/Take", name := "retryNanos", desc := "()J" } : Jvm.MethodName) prog_5_method_8_code (1 : Nat) (Option.some Jvm.ClassFile.FieldType.long)).before args0 about1 = true := code_word (m := ⟨2, 5⟩) (meth := k2m5) (c := k2c5) (by decide +kernel) rfl rfl rfl (by decide +kernel)
set_option maxRecDepth 65536 in
theorem w_c10 : (Jvm.Cond.code ({ cls := "java/util/concurrent/TimeUnit", name := "toNanos", desc := "(J)J" } : Jvm.MethodName) jdk_2799_method_7_code (7 : Nat) (Option.some Jvm.ClassFile.FieldType.long)).before args0 about1 = true := code_word (m := ⟨8, 0⟩) (meth := k8m0) (c := k8c0) (by decide +kernel) rfl rfl rfl (by decide +kernel)
set_option maxRecDepth 65536 in
theorem w_c11 : (Jvm.Cond.code ({ cls := "com/example/plus1/plus1/TakeOfPinLaw", name := "expectedRetryNanos", desc := "(J)J" } : Jvm.MethodName) method_2_code (4 : Nat) (Option.some Jvm.ClassFile.FieldType.long)).before args0 about1 = true := code_word (m := ⟨1, 1⟩) (meth := k1m1) (c := k1c1) (by decide +kernel) rfl rfl rfl (by decide +kernel)
def codes1 : List Jvm.Cond := [Jvm.Cond.code x code maxLocals ret, Jvm.Cond.code ({ cls := "com/example/plus1/plus1/Take", name := "of", desc := "(JJ)Lcom/example/plus1/plus1/Take;" } : Jvm.MethodName) prog_5_method_3_code (4 : Nat) (Option.some (Jvm.ClassFile.FieldType.object "com/example/plus1/plus1/Take")), Jvm.Cond.code ({ cls := "java/lang/Boolean", name := "valueOf", desc := "(Z)Ljava/lang/Boolean;" } : Jvm.MethodName) jdk_2055_method_5_code (1 : Nat) (Option.some (Jvm.ClassFile.FieldType.object "java/lang/Boolean")), Jvm.Cond.code ({ cls := "com/example/plus1/plus1/Take", name := "<init>", desc := "(JJLjava/lang/Boolean;)V" } : Jvm.MethodName) prog_5_method_1_code (6 : Nat) (Option.none : Option Jvm.ClassFile.FieldType), Jvm.Cond.code ({ cls := "java/lang/Object", name := "<init>", desc := "()V" } : Jvm.MethodName) object_method_1_code (1 : Nat) (Option.none : Option Jvm.ClassFile.FieldType), Jvm.Cond.code ({ cls := "com/example/plus1/plus1/Take", name := "holds", desc := "()J" } : Jvm.MethodName) prog_5_method_6_code (1 : Nat) (Option.some Jvm.ClassFile.FieldType.long), Jvm.Cond.code ({ cls := "com/example/plus1/plus1/Take", name := "taken", desc := "()Z" } : Jvm.MethodName) prog_5_method_5_code (1 : Nat) (Option.some Jvm.ClassFile.FieldType.boolean), Jvm.Cond.code ({ cls := "com/example/plus1/plus1/Take", name := "heldBefore", desc := "()Ljava/lang/Boolean;" } : Jvm.MethodName) prog_5_method_7_code (1 : Nat) (Option.some (Jvm.ClassFile.FieldType.object "java/lang/Boolean")), Jvm.Cond.code ({ cls := "java/lang/Boolean", name := "booleanValue", desc := "()Z" } : Jvm.MethodName) jdk_2055_method_4_code (1 : Nat) (Option.some Jvm.ClassFile.FieldType.boolean), Jvm.Cond.code ({ cls := "com/example/plus1/plus1/Take", name := "retryNanos", desc := "()J" } : Jvm.MethodName) prog_5_method_8_code (1 : Nat) (Option.some Jvm.ClassFile.FieldType.long), Jvm.Cond.code ({ cls := "java/util/concurrent/TimeUnit", name := "toNanos", desc := "(J)J" } : Jvm.MethodName) jdk_2799_method_7_code (7 : Nat) (Option.some Jvm.ClassFile.FieldType.long), Jvm.Cond.code ({ cls := "com/example/plus1/plus1/TakeOfPinLaw", name := "expectedRetryNanos", desc := "(J)J" } : Jvm.MethodName) method_2_code (4 : Nat) (Option.some Jvm.ClassFile.FieldType.long)]
set_option maxRecDepth 65536 in
theorem codes_eq : words1.filter isCode = codes1 := rfl
theorem w_codes : ∀ c ∈ words1.filter isCode, c.before args0 about1 = true := by
  rw [codes_eq]
  intro c hc
  simp only [codes1, List.mem_cons, List.not_mem_nil, or_false] at hc
  rcases hc with rfl | rfl | rfl | rfl | rfl | rfl | rfl | rfl | rfl | rfl | rfl | rfl
  · exact w_c0
  · exact w_c1
  · exact w_c2
  · exact w_c3
  · exact w_c4
  · exact w_c5
  · exact w_c6
  · exact w_c7
  · exact w_c8
  · exact w_c9
  · exact w_c10
  · exact w_c11
set_option maxRecDepth 65536 in
theorem w_t1 : (words1.take 24).all (fun c => isCode c || c.before args0 about1) = true := by decide +kernel
set_option maxRecDepth 65536 in
theorem w_t2 : ((words1.drop 24).take 24).all (fun c => isCode c || c.before args0 about1) = true := by decide +kernel
set_option maxRecDepth 65536 in
theorem w_t3 : ((words1.drop 24).drop 24).all (fun c => isCode c || c.before args0 about1) = true := by decide +kernel
theorem w_tables : (allAtoms (Jvm.Cond.code x code maxLocals ret :: tables_1)).before args0 about1 = true := by
  rw [allAtoms_all]
  show words1.all (fun c => c.before args0 about1) = true
  refine all_split ?_ w_codes
  rw [← List.take_append_drop 24 words1, List.all_append, w_t1, ← List.take_append_drop 24 (words1.drop 24), List.all_append, w_t2, w_t3]
  rfl
set_option maxRecDepth 65536 in
theorem w_rest : rest_1_c.before args0 about1 = true := by decide +kernel
set_option maxRecDepth 65536 in
theorem w_case : (Jvm.Cond.and given_1 narrow_1).before args0 about1 = true := by decide +kernel
theorem w_applies : (headSpec (Jvm.Cond.code x code maxLocals ret :: tables_1) room_1).applies x e0.platform about1 = true :=
  (Spec.applies_iff w_frames).mpr ⟨w_running, w_runnable, w_alone, w_named, w_hears, w_ripe, w_room, w_tables⟩
theorem atStart : AtStart classFile x code maxLocals ret World_1 tables_1 room_1 Calls_1 rest_1 Pre_1 launch0 p0 e0 about1 theMethod args0 below0 :=
  ⟨lists_1, trivial, launch0.admits_env _ _ _, launch0.least_env, fairChoices_fair.cas, fairChoices_fair.clock, w_frames, w_args, w_heap, w_applies, trivial, w_rest, w_case⟩
end start1
theorem witness_1 : WitnessClaimed_1 := ⟨start1.p0, start1.e0, start1.about1, start1.theMethod, start1.args0, start1.below0, start1.atStart⟩
end Jvm.Pilot.@@N@@
