import JvmDerived
import JvmDerived.Pilot.@@N@@Statement
import JvmDerived.Pilot.@@N@@Code
set_option linter.unusedVariables false
set_option linter.unusedSimpArgs false
namespace Jvm.Pilot.@@N@@
open Jvm Jvm.ClassFile Sem Op Lib Jvm.Free Jvm.Stand Jvm.LawKit Jvm.RoadKit Bundle Jvm.Pilot.@@N@@.Jvm.D
abbrev own_At (p : Program) (e : Env) (below : List Frame) (m : MethodId) (T : State) (pc : Nat) (ls : Array Slot) (st : List Value) (t : State) : Prop := Steps p.tables e below (T.setTop (mkF m pc ls st)) t
abbrev own_En (p : Program) (e : Env) (below : List Frame) (m : MethodId) (T : State) (a : Array Value) (n : Nat) (t : State) : Prop := Steps p.tables e below (T.setTop (entryFrame m a n)) t
theorem own_w {a0 : Array Value} {Z : State} (hw : ∀ d ∈ tables_1, d.before a0 Z = true) (i : Nat) {d : Jvm.Cond} (h : tables_1[i]? = some d) : d.before a0 Z = true := hw d (List.mem_of_getElem? h)
theorem own_eqI {t : Term} {k : Int32} {args : Array Value} {s : State} (h : (Jvm.Cond.eq t (.int k)).value args s none s [] = some true) : t.eval args s none [] s = some (.int k) := by
  have e : (Term.int k).eval args s none [] s = some (.int k) := rfl
  simp only [Cond.value, e] at h
  cases ht : t.eval args s none [] s with
  | none => simp [ht] at h
  | some x => cases x <;> simp [ht] at h ⊢; exact h
theorem own_neI {t : Term} {k z : Int32} {args : Array Value} {s : State} (e : t.eval args s none [] s = some (.int z)) (h : (Jvm.Cond.not (Jvm.Cond.eq t (.int k))).value args s none s [] = some true) : ¬ (z = k) := by
  have q := not_v h
  have e2 : (Term.int k).eval args s none [] s = some (.int k) := rfl
  simp only [Cond.value, e, e2, Bool.not_true, Option.some.injEq, decide_eq_false_iff_not] at q
  exact q
theorem own_neR {t u : Term} {a b : Addr} {args : Array Value} {s : State} (ea : t.eval args s none [] s = some (.ref a)) (eb : u.eval args s none [] s = some (.ref b)) (h : (Jvm.Cond.not (Jvm.Cond.eq t u)).value args s none s [] = some true) : ¬ (a = b) := by
  have q := not_v h
  rw [eq_R ea eb rfl rfl] at q
  intro e
  rw [e] at q
  simp at q
theorem own_eqJ {t : Term} {k : Int64} {args : Array Value} {s : State} (h : (Jvm.Cond.eq t (.long k)).value args s none s [] = some true) : t.eval args s none [] s = some (.long k) := by
  have e : (Term.long k).eval args s none [] s = some (.long k) := rfl
  simp only [Cond.value, e] at h
  cases ht : t.eval args s none [] s with
  | none => simp [ht] at h
  | some x => cases x <;> simp [ht] at h ⊢; exact h
theorem own_len {t : Term} {n : Int32} {a : Addr} {cl : Cell} {ty : FieldType} {args : Array Value} {s : State} (ev : t.eval args s none [] s = some (.ref a)) (A : Arr s s.heap a cl ty) (h : (Jvm.Cond.eq (.length t) (.int n)).value args s none s [] = some true) : cl.slots.size < 2 ^ 31 ∧ cl.slots.size.toInt32 = n := by
  have q := own_eqI h
  have hA := A.fin (Vm.Alike.refl _)
  simp only [Term.eval, ev, hA, Option.bind_eq_bind, Option.bind_some] at q
  split at q
  · rename_i hl
    exact ⟨hl, Value.int.inj (Option.some.inj q)⟩
  · cases q
theorem own_elem {t u : Term} {j : Int32} {a : Addr} {v : Value} {cl : Cell} {ty : FieldType} {args : Array Value} {s : State} (ev : t.eval args s none [] s = some (.ref a)) (A : Arr s s.heap a cl ty) (h : (Term.elem t (.int j)).eval args s none [] s = some v) (i : Nat) (hi : j.toNatClampNeg = i) : cl.slots[i]? = some v := by
  have q := (elem_in h ev (rfl : (Term.int j).eval args s none [] s = some (.int j)) A.1).2
  rw [hi] at q; exact q
/-- an array as it stood at the start, that may be cloned -/
def own_Cln (Z : State) (h : Heap) (a : Addr) (ty : FieldType) (n : Int32) (vs : List Value) (d : Value) : Prop := ∃ c : Cell, Arr Z h a c ty ∧ FitC Z c ∧ c.slots.size = n.toNatClampNeg ∧ ¬ n < 0 ∧ Has c vs d ∧ ∀ i, i < c.slots.size → fits ty (vs.getD i d) = true
theorem own_Cln.ext {Z : State} {h h' : Heap} {a : Addr} {ty : FieldType} {n : Int32} {vs : List Value} {d : Value} (F : own_Cln Z h a ty n vs d) (E : Ext h h') : own_Cln Z h' a ty n vs d := by
  obtain ⟨c, A, r⟩ := F; exact ⟨c, A.ext E, r⟩
theorem own_Cln.start {Z : State} {a : Addr} {cl : Cell} {ty : FieldType} {z : Int32} {vs : List Value} {dv : Value} (hf : Fit Z) (A : Arr Z Z.heap a cl ty) (q : cl.slots.size < 2 ^ 31 ∧ cl.slots.size.toInt32 = z) (hz : ¬ z < 0) (hl : z.toNatClampNeg = vs.length) (H : HasL cl 0 vs) : own_Cln Z Z.heap a ty z vs dv := by
  have S : cl.slots.size = z.toNatClampNeg := by rw [← q.2]; simp only [Int32.toNatClampNeg, len_toInt q.1]; rfl
  have H' : Has cl vs dv := fun j hj => by have := HasL.at (dv := dv) vs 0 H j (by rw [← hl, ← S]; exact hj); rwa [Nat.zero_add] at this
  refine ⟨cl, A, FitC.start hf A, S, hz, H', fun j hj => ?_⟩
  have e1 : (Nat.toInt32 j).toNatClampNeg = j := by simp only [Int32.toNatClampNeg, len_toInt (Nat.lt_trans hj q.1)]; rfl
  exact elem_fits (j := Nat.toInt32 j) hf A (idx_in hj q.1) (by rw [e1]; exact H' j hj)
theorem own_Cln.arv {Z : State} {h : Heap} {a : Addr} {ty : FieldType} {n : Int32} {vs : List Value} {d : Value} (F : own_Cln Z h a ty n vs d) : ∃ k, Arv Z h a k ty n vs d := by
  obtain ⟨c, A, -, r⟩ := F; exact ⟨c.cls, c, A, rfl, r⟩
theorem own_eqR {t u : Term} {b : Addr} {args : Array Value} {s : State} (h : (Jvm.Cond.eq t u).value args s none s [] = some true) (e : u.eval args s none [] s = some (.ref b)) : t.eval args s none [] s = some (.ref b) := by
  simp only [Cond.value, e] at h
  cases ht : t.eval args s none [] s with
  | none => simp [ht] at h
  | some x => cases x <;> simp [ht] at h ⊢; exact h
def EV (Z : State) (a_RULE : Addr) (a_GRANT : Addr) : Prop := Sta Z Z.heap "com/example/scoped_authority/scopedauthority/Numbered" "RULE" "Lcom/example/scoped_authority/scopedauthority/Numbered;" (.ref a_RULE) ∧ Exa Z Z.heap a_RULE "com/example/scoped_authority/scopedauthority/Numbered" ∧ Sta Z Z.heap "com/example/scoped_authority/scopedauthority/Numbered" "GRANT" "Lcom/example/scoped_authority/scopedauthority/Numbered;" (.ref a_GRANT) ∧ Exa Z Z.heap a_GRANT "com/example/scoped_authority/scopedauthority/Numbered"
theorem ef_ck (m : MethodId) (x0 : Addr) (x1 : Int32)  : entryFrame m #[(.ref x0), (.int x1)] 2 = mkF m 0 #[.val (.ref x0), .val (.int x1)] [] := by first | (simp [entryFrame, mkF, argsToLocals, Value.category]; done) | rfl
theorem d_prog_36_method_4_code_0 : decode prog_36_method_4_code 0 = .ok (.iload_n 1, 1) := by decide +kernel
theorem d_prog_36_method_4_code_1 : decode prog_36_method_4_code 1 = .ok (.iconst 1, 1) := by decide +kernel
theorem d_prog_36_method_4_code_2 : decode prog_36_method_4_code 2 = .ok (.if_icmp .ge 21, 3) := by decide +kernel
theorem d_prog_36_method_4_code_23 : decode prog_36_method_4_code 23 = .ok (.iload_n 1, 1) := by decide +kernel
theorem d_prog_36_method_4_code_24 : decode prog_36_method_4_code 24 = .ok (.ireturn, 1) := by decide +kernel
theorem pn_com_example_scoped_authority_scopedauthority_Numbered : plainName "com/example/scoped_authority/scopedauthority/Numbered" = true := by first | (simp [plainName, overriddenIn]; done) | decide +kernel
abbrev own_m0 : MethodName := ⟨"com/example/scoped_authority/scopedauthority/Numbered", "checked", "(I)I"⟩
def Q_ck (Z : State) (a1 : Addr) (p2 : Int32) (h0 : Heap) (n0 : Nat) (v : Option Value) (h : Heap) (L : List Loc) : Prop := v = some (.int p2) ∧ Fr n0 L ∧ h = h0
set_option maxRecDepth 65536 in
set_option maxHeartbeats 40000000 in
theorem rm_ck (l : Launch) (Z : State) (a0 : Array Value) (hw : ∀ d ∈ tables_1, d.before a0 Z = true) (ws : List Jvm.Cond) (a1 : Addr) (p2 : Int32) (h0 : Heap) (n0 : Nat) (O0 : Old Z n0 h0) (hp : ¬ (p2 < (1 : Int32))) :
    MetFree l own_m0 (head1 (Jvm.Cond.code own_m0 prog_36_method_4_code 2 (some .int) :: ws) ({ frames := 0, cells := 0, slots := 0, locals := 0 } : Room)) (fun a U => a = #[(.ref a1), (.int p2)] ∧ Z.Warmed39 U.vm ∧ U.heap = h0) (fun _ _ _ _ _ => True) (fun _ U o U' => ∃ v L, o = .returned v ∧ Q_ck Z a1 p2 h0 n0 v U'.heap L ∧ FrameEnd U o U' L ({ frames := 0, cells := 0, slots := 0, locals := 0 } : Room).cells ({ frames := 0, cells := 0, slots := 0, locals := 0 } : Room).slots) := by
  refine MetFree.of_bodySF (plainFor_of_name pn_com_example_scoped_authority_scopedauthority_Numbered) hisR ?_
  intro p e s m args below meth c s₁ Bd hml0 hP hK
  obtain ⟨rfl, hZ, hh⟩ := hP
  have hx := Bd.exec
  have hby := Bd.bytes
  have hml : c.maxLocals = 2 := hml0
  have hown : s.vm.findClass "com/example/scoped_authority/scopedauthority/Numbered" = some m.cls := findClass_of_methodNamed Bd.named
  have hnm := (name_of_methodNamed Bd.named Bd.method).1
  have X0 : Stand p l e ({ frames := 0, cells := 0, slots := 0, locals := 0 } : Room) s m #[(.ref a1), (.int p2)] below meth c s₁ [] 0 0 := Stand.of_body Bd
  have e0 : s₁.heap = h0 := by rw [← hh, Bd.state]; rfl
  have N0 := Fr.nil n0
  refine Classical.byContradiction fun hNG => ?_
  have K0 := Keep.refl h0 []
  have k0 : ∀ t, own_At p e below m s₁ 0 #[.val (.ref a1), .val (.int p2)] [] t → own_En p e below m s₁ #[(.ref a1), (.int p2)] 2 t := fun t k => castTop (ef_ck m a1 p2 ) k
  have k1 : ∀ t, own_At p e below m s₁ 24 #[.val (.ref a1), .val (.int p2)] [(.int p2)] t → own_En p e below m s₁ #[(.ref a1), (.int p2)] 2 t := by
    intro t k
    refine k0 t ?_
    refine XS.iloadN X0.here hx rfl (hb hby d_prog_36_method_4_code_0) rfl ?_
    show own_At p e below m s₁ 1 #[.val (.ref a1), .val (.int p2)] [(.int p2)] t
    refine XS.iconst X0.here hx rfl (hb hby d_prog_36_method_4_code_1) ?_
    show own_At p e below m s₁ 2 #[.val (.ref a1), .val (.int p2)] [(.int (1 : Int32)), (.int p2)] t
    refine XS.icmpYes X0.here hx rfl (pc0 := 2) (pc' := 23) rfl (hb hby d_prog_36_method_4_code_2) rfl (flt hp).2.1 (by decide) (by decide) ?_
    show own_At p e below m s₁ 23 #[.val (.ref a1), .val (.int p2)] [] t
    refine XS.iloadN X0.here hx rfl (hb hby d_prog_36_method_4_code_23) rfl ?_
    show own_At p e below m s₁ 24 #[.val (.ref a1), .val (.int p2)] [(.int p2)] t
    exact k
  obtain ⟨fs, hr, hrun, hended, hW, hsame⟩ := X0.leave (v := some (.int p2)) (fun h => by rw [Bd.returns] at h; cases h)
  refine hNG ⟨_, _, k1 _ ?_, hrun, hended, _, _, rfl, ?_, ⟨_, rfl⟩, hW, hsame.mono (by decide) (by decide)⟩
  · exact retOut X0 hx (t := .int) Bd.returns rfl (Or.inl ⟨rfl, Or.inl rfl, _, rfl⟩) (hb hby d_prog_36_method_4_code_24) hr
  · show Q_ck Z a1 p2 h0 n0 _ s₁.heap _
    rw [e0]
    exact ⟨rfl, N0, rfl⟩
theorem own_num1 : ¬ ((1 : Int32) < (1 : Int32)) := by decide
theorem own_num {p : Int32} (h : ¬ ((p &&& (2147483647 : Int32)) = (0 : Int32))) : ¬ ((p &&& (2147483647 : Int32)) < (1 : Int32)) := by
  have e := c_mask p (2147483647 : Int32) 31 (by decide) (by decide)
  intro q
  rw [Int32.lt_iff_toInt_lt, e] at q
  refine h (Int32.toInt_inj.mp ?_)
  have e1 : (1 : Int32).toInt = 1 := by decide
  have e0 : (0 : Int32).toInt = 0 := by decide
  rw [e, e0]
  rw [e1] at q
  omega
theorem ef_law (m : MethodId) (x0 : Int32) (x1 : Int32)  : entryFrame m #[(.int x0), (.int x1)] maxLocals = mkF m 0 #[.val (.int x0), .val (.int x1), .unset, .unset] [] := by first | (simp [entryFrame, mkF, argsToLocals, Value.category, maxLocals]; done) | rfl
theorem pd__I_I : parseMethodDescriptor "(I)I" = some ⟨[.int], some .int⟩ := by decide +kernel
theorem pn_com_example_scoped_authority_scopedauthority_NumberedCheckedPinLaw : plainName "com/example/scoped_authority/scopedauthority/NumberedCheckedPinLaw" = true := by first | (simp [plainName, overriddenIn]; done) | decide +kernel
def Q_law (Z : State) (p0 : Int32) (p1 : Int32) (a_RULE : Addr) (a_GRANT : Addr) (h0 : Heap) (n0 : Nat) (v : Option Value) (h : Heap) (L : List Loc) : Prop := v = some (.int (1 : Int32)) ∧ Fr n0 L
set_option maxRecDepth 65536 in
set_option maxHeartbeats 40000000 in
theorem rm_law (l : Launch) (Z : State) (a0 : Array Value) (hw : ∀ d ∈ tables_1, d.before a0 Z = true) (ws : List Jvm.Cond) (p0 : Int32) (p1 : Int32) (a_RULE : Addr) (a_GRANT : Addr) (h0 : Heap) (n0 : Nat) (O0 : Old Z n0 h0) (hE : EV Z a_RULE a_GRANT) :
    MetFree l x (head1 (Jvm.Cond.code x code maxLocals ret :: ws) room_1) (fun a U => a = #[(.int p0), (.int p1)] ∧ Z.Warmed39 U.vm ∧ U.heap = h0) (fun _ _ _ _ _ => True) (fun _ U o U' => ∃ v L, o = .returned v ∧ Q_law Z p0 p1 a_RULE a_GRANT h0 n0 v U'.heap L ∧ FrameEnd U o U' L 0 0) := by
  refine MetFree.of_bodySF (plainFor_of_name pn_com_example_scoped_authority_scopedauthority_NumberedCheckedPinLaw) hisR ?_
  intro p e s m args below meth c s₁ Bd hml0 hP hK
  obtain ⟨rfl, hZ, hh⟩ := hP
  have hx := Bd.exec
  have hby := Bd.bytes
  have hml : c.maxLocals = 4 := hml0
  have hown : s.vm.findClass "com/example/scoped_authority/scopedauthority/NumberedCheckedPinLaw" = some m.cls := findClass_of_methodNamed Bd.named
  have hnm := (name_of_methodNamed Bd.named Bd.method).1
  have X0 : Stand p l e room_1 s m #[(.int p0), (.int p1)] below meth c s₁ [] 0 0 := Stand.of_body Bd
  have e0 : s₁.heap = h0 := by rw [← hh, Bd.state]; rfl
  have N0 := Fr.nil n0
  refine Classical.byContradiction fun hNG => ?_
  have K0 := Keep.refl h0 []
  have k0 : ∀ t, own_At p e below m s₁ 0 #[.val (.int p0), .val (.int p1), .unset, .unset] [] t → own_En p e below m s₁ #[(.int p0), (.int p1)] maxLocals t := fun t k => castTop (ef_law m p0 p1 ) k
  obtain ⟨S_RULE, E_RULE, S_GRANT, E_GRANT⟩ := (id hE : EV Z a_RULE a_GRANT)
  have k1 : ∀ t, own_At p e below m s₁ 6 #[.val (.int p0), .val (.int p1), .val (.int (p0 &&& (2147483647 : Int32))), .unset] [(.int (p0 &&& (2147483647 : Int32)))] t → own_En p e below m s₁ #[(.int p0), (.int p1)] maxLocals t := by
    intro t k
    refine k0 t ?_
    refine XS.iloadN X0.here hx rfl (hb hby at_0) rfl ?_
    show own_At p e below m s₁ 1 #[.val (.int p0), .val (.int p1), .unset, .unset] [(.int p0)] t
    refine X0.ldcI hx hown (mvT hZ (own_w hw 0 rfl)) rfl (hb hby at_1) ?_
    show own_At p e below m s₁ 3 #[.val (.int p0), .val (.int p1), .unset, .unset] [(.int (2147483647 : Int32)), (.int p0)] t
    refine XS.iand X0.here hx rfl (hb hby at_3) rfl ?_
    show own_At p e below m s₁ 4 #[.val (.int p0), .val (.int p1), .unset, .unset] [(.int (p0 &&& (2147483647 : Int32)))] t
    refine XS.istoreN X0.here hx rfl (hb hby at_4) rfl (l' := #[.val (.int p0), .val (.int p1), .val (.int (p0 &&& (2147483647 : Int32))), .unset]) rfl ?_
    show own_At p e below m s₁ 5 #[.val (.int p0), .val (.int p1), .val (.int (p0 &&& (2147483647 : Int32))), .unset] [] t
    refine XS.iloadN X0.here hx rfl (hb hby at_5) rfl ?_
    show own_At p e below m s₁ 6 #[.val (.int p0), .val (.int p1), .val (.int (p0 &&& (2147483647 : Int32))), .unset] [(.int (p0 &&& (2147483647 : Int32)))] t
    exact k
  by_cases hc2 : (p0 &&& (2147483647 : Int32)) = (0 : Int32)
  · have k3 : ∀ t, own_At p e below m s₁ 14 #[.val (.int p0), .val (.int p1), .val (.int (1 : Int32)), .unset] [(.int (p1 &&& (1 : Int32)))] t → own_En p e below m s₁ #[(.int p0), (.int p1)] maxLocals t := by
      intro t k
      refine k1 t ?_
      refine XS.ifNo X0.here hx rfl (hb hby at_6) rfl ((if0 _ _).trans (teq hc2).2) ?_
      show own_At p e below m s₁ 9 #[.val (.int p0), .val (.int p1), .val (.int (p0 &&& (2147483647 : Int32))), .unset] [] t
      refine XS.iconst X0.here hx rfl (hb hby at_9) ?_
      show own_At p e below m s₁ 10 #[.val (.int p0), .val (.int p1), .val (.int (p0 &&& (2147483647 : Int32))), .unset] [(.int (1 : Int32))] t
      refine XS.istoreN X0.here hx rfl (hb hby at_10) rfl (l' := #[.val (.int p0), .val (.int p1), .val (.int (1 : Int32)), .unset]) rfl ?_
      show own_At p e below m s₁ 11 #[.val (.int p0), .val (.int p1), .val (.int (1 : Int32)), .unset] [] t
      refine XS.iloadN X0.here hx rfl (hb hby at_11) rfl ?_
      show own_At p e below m s₁ 12 #[.val (.int p0), .val (.int p1), .val (.int (1 : Int32)), .unset] [(.int p1)] t
      refine XS.iconst X0.here hx rfl (hb hby at_12) ?_
      show own_At p e below m s₁ 13 #[.val (.int p0), .val (.int p1), .val (.int (1 : Int32)), .unset] [(.int (1 : Int32)), (.int p1)] t
      refine XS.iand X0.here hx rfl (hb hby at_13) rfl ?_
      show own_At p e below m s₁ 14 #[.val (.int p0), .val (.int p1), .val (.int (1 : Int32)), .unset] [(.int (p1 &&& (1 : Int32)))] t
      exact k
    by_cases hc4 : (p1 &&& (1 : Int32)) = (0 : Int32)
    · obtain ⟨T5, X5, e5, st5⟩ := getS2 X0 hx hZ hown (host := "") (Or.inl (own_w hw 9 rfl)) Via.refl e0 (S_GRANT.ext O0.2) (g := (mkF m 23 #[.val (.int p0), .val (.int p1), .val (.int (1 : Int32)), .unset] [])) rfl (hb hby at_23)
      obtain ⟨cq6, kq6, q6a, q6b, q6c⟩ := isOf hZ e5 (E_GRANT.ext O0.2)
      obtain ⟨_, _, ⟨T6, L6, k6, n6⟩, -, X6, ⟨Lc6, hQ6, l6, y6, z6⟩, st6⟩ := X5.virtualBack hx (y := own_m0) (z := own_m0) hown (mvT hZ (own_w hw 4 rfl)) (mvT hZ (own_w hw 5 rfl)) (notFace_of_selects (args := #[]) (mvT hZ (own_w hw 7 rfl))) (mvT hZ (own_w hw 7 rfl)) (mvT hZ (own_w hw 6 rfl)) (by decide) (backOf (W := 0) (rm_ck l Z a0 hw [] a_GRANT (1 : Int32) h0 n0 O0 own_num1) hZ (own_w hw 8 rfl) (own_w hw 2 rfl) (by decide) (by decide)) q6a q6c (g := (mkF m 29 #[.val (.int p0), .val (.int p1), .val (.int (1 : Int32)), .val (.ref a_GRANT)] [(.int (1 : Int32)), (.ref a_GRANT)])) rfl (by rw [hml]; rfl) (Steps.refl _) (argsL := [(.int (1 : Int32))]) (rest := []) (lenOf pd__I_I rfl) rfl (by show 2 * 0 + _ ≤ _; exact Nat.le_of_eq rfl) (hb hby at_29) (fun _ _ => ⟨rfl, e5, (by decide : 0 + 0 ≤ _), (by decide : 0 + 0 ≤ _)⟩)
      dsimp only [Pt.U, Pt.locs, Pt.cells, Pt.slots] at X6 l6 y6 z6 st6 hQ6
      subst l6 y6 z6
      obtain ⟨rfl, N6q, hp6⟩ := hQ6
      have N6 := Fr.app N0 N6q
      have k7 : ∀ t, own_At p e below m T6 41 #[.val (.int p0), .val (.int p1), .val (.int (1 : Int32)), .val (.ref a_GRANT)] [(.int (1 : Int32))] t → own_En p e below m s₁ #[(.int p0), (.int p1)] maxLocals t := by
        intro t k
        refine k3 t ?_
        refine XS.ifYes X0.here hx rfl (pc0 := 14) (pc' := 23) rfl (hb hby at_14) rfl ((if0 _ _).trans (teq hc4).1) (by decide) (by decide) ?_
        show own_At p e below m s₁ 23 #[.val (.int p0), .val (.int p1), .val (.int (1 : Int32)), .unset] [] t
        refine st5 _ ?_
        show own_At p e below m T5 26 #[.val (.int p0), .val (.int p1), .val (.int (1 : Int32)), .unset] [(.ref a_GRANT)] t
        refine XS.astoreN X5.here hx rfl (hb hby at_26) rfl rfl (l' := #[.val (.int p0), .val (.int p1), .val (.int (1 : Int32)), .val (.ref a_GRANT)]) rfl ?_
        show own_At p e below m T5 27 #[.val (.int p0), .val (.int p1), .val (.int (1 : Int32)), .val (.ref a_GRANT)] [] t
        refine XS.aloadN X5.here hx rfl (hb hby at_27) rfl rfl ?_
        show own_At p e below m T5 28 #[.val (.int p0), .val (.int p1), .val (.int (1 : Int32)), .val (.ref a_GRANT)] [(.ref a_GRANT)] t
        refine XS.iloadN X5.here hx rfl (hb hby at_28) rfl ?_
        show own_At p e below m T5 29 #[.val (.int p0), .val (.int p1), .val (.int (1 : Int32)), .val (.ref a_GRANT)] [(.int (1 : Int32)), (.ref a_GRANT)] t
        refine st6.trans ?_
        show own_At p e below m T6 32 #[.val (.int p0), .val (.int p1), .val (.int (1 : Int32)), .val (.ref a_GRANT)] [(.int (1 : Int32))] t
        refine XS.iloadN X6.here hx rfl (hb hby at_32) rfl ?_
        show own_At p e below m T6 33 #[.val (.int p0), .val (.int p1), .val (.int (1 : Int32)), .val (.ref a_GRANT)] [(.int (1 : Int32)), (.int (1 : Int32))] t
        refine XS.icmpNo X6.here hx rfl (hb hby at_33) rfl (teq (by decide : (1 : Int32) = (1 : Int32))).2 ?_
        show own_At p e below m T6 36 #[.val (.int p0), .val (.int p1), .val (.int (1 : Int32)), .val (.ref a_GRANT)] [] t
        refine XS.iconst X6.here hx rfl (hb hby at_36) ?_
        show own_At p e below m T6 37 #[.val (.int p0), .val (.int p1), .val (.int (1 : Int32)), .val (.ref a_GRANT)] [(.int (1 : Int32))] t
        refine XS.goto X6.here hx rfl (pc0 := 37) (pc' := 41) rfl (hb hby at_37) (by decide) (by decide) ?_
        show own_At p e below m T6 41 #[.val (.int p0), .val (.int p1), .val (.int (1 : Int32)), .val (.ref a_GRANT)] [(.int (1 : Int32))] t
        exact k
      obtain ⟨fs, hr, hrun, hended, hW, hsame⟩ := X6.leave (v := some (.int (1 : Int32))) (fun h => by rw [Bd.returns] at h; cases h)
      refine hNG ⟨_, _, k7 _ ?_, hrun, hended, _, _, rfl, ?_, ⟨_, rfl⟩, hW, hsame.mono (by decide) (by decide)⟩
      · exact retN X6 hx (t := .boolean) Bd.returns (by simp) (hb hby at_41) hr
      · show Q_law Z p0 p1 a_RULE a_GRANT h0 n0 _ T6.heap _
        rw [hp6]
        exact ⟨rfl, N6⟩
    · obtain ⟨T8, X8, e8, st8⟩ := getS2 X0 hx hZ hown (host := "") (Or.inl (own_w hw 1 rfl)) Via.refl e0 (S_RULE.ext O0.2) (g := (mkF m 17 #[.val (.int p0), .val (.int p1), .val (.int (1 : Int32)), .unset] [])) rfl (hb hby at_17)
      obtain ⟨cq9, kq9, q9a, q9b, q9c⟩ := isOf hZ e8 (E_RULE.ext O0.2)
      obtain ⟨_, _, ⟨T9, L9, k9, n9⟩, -, X9, ⟨Lc9, hQ9, l9, y9, z9⟩, st9⟩ := X8.virtualBack hx (y := own_m0) (z := own_m0) hown (mvT hZ (own_w hw 4 rfl)) (mvT hZ (own_w hw 5 rfl)) (notFace_of_selects (args := #[]) (mvT hZ (own_w hw 7 rfl))) (mvT hZ (own_w hw 7 rfl)) (mvT hZ (own_w hw 6 rfl)) (by decide) (backOf (W := 0) (rm_ck l Z a0 hw [] a_RULE (1 : Int32) h0 n0 O0 own_num1) hZ (own_w hw 8 rfl) (own_w hw 2 rfl) (by decide) (by decide)) q9a q9c (g := (mkF m 29 #[.val (.int p0), .val (.int p1), .val (.int (1 : Int32)), .val (.ref a_RULE)] [(.int (1 : Int32)), (.ref a_RULE)])) rfl (by rw [hml]; rfl) (Steps.refl _) (argsL := [(.int (1 : Int32))]) (rest := []) (lenOf pd__I_I rfl) rfl (by show 2 * 0 + _ ≤ _; exact Nat.le_of_eq rfl) (hb hby at_29) (fun _ _ => ⟨rfl, e8, (by decide : 0 + 0 ≤ _), (by decide : 0 + 0 ≤ _)⟩)
      dsimp only [Pt.U, Pt.locs, Pt.cells, Pt.slots] at X9 l9 y9 z9 st9 hQ9
      subst l9 y9 z9
      obtain ⟨rfl, N9q, hp9⟩ := hQ9
      have N9 := Fr.app N0 N9q
      have k10 : ∀ t, own_At p e below m T9 41 #[.val (.int p0), .val (.int p1), .val (.int (1 : Int32)), .val (.ref a_RULE)] [(.int (1 : Int32))] t → own_En p e below m s₁ #[(.int p0), (.int p1)] maxLocals t := by
        intro t k
        refine k3 t ?_
        refine XS.ifNo X0.here hx rfl (hb hby at_14) rfl ((if0 _ _).trans (feq hc4).1) ?_
        show own_At p e below m s₁ 17 #[.val (.int p0), .val (.int p1), .val (.int (1 : Int32)), .unset] [] t
        refine st8 _ ?_
        show own_At p e below m T8 20 #[.val (.int p0), .val (.int p1), .val (.int (1 : Int32)), .unset] [(.ref a_RULE)] t
        refine XS.goto X8.here hx rfl (pc0 := 20) (pc' := 26) rfl (hb hby at_20) (by decide) (by decide) ?_
        show own_At p e below m T8 26 #[.val (.int p0), .val (.int p1), .val (.int (1 : Int32)), .unset] [(.ref a_RULE)] t
        refine XS.astoreN X8.here hx rfl (hb hby at_26) rfl rfl (l' := #[.val (.int p0), .val (.int p1), .val (.int (1 : Int32)), .val (.ref a_RULE)]) rfl ?_
        show own_At p e below m T8 27 #[.val (.int p0), .val (.int p1), .val (.int (1 : Int32)), .val (.ref a_RULE)] [] t
        refine XS.aloadN X8.here hx rfl (hb hby at_27) rfl rfl ?_
        show own_At p e below m T8 28 #[.val (.int p0), .val (.int p1), .val (.int (1 : Int32)), .val (.ref a_RULE)] [(.ref a_RULE)] t
        refine XS.iloadN X8.here hx rfl (hb hby at_28) rfl ?_
        show own_At p e below m T8 29 #[.val (.int p0), .val (.int p1), .val (.int (1 : Int32)), .val (.ref a_RULE)] [(.int (1 : Int32)), (.ref a_RULE)] t
        refine st9.trans ?_
        show own_At p e below m T9 32 #[.val (.int p0), .val (.int p1), .val (.int (1 : Int32)), .val (.ref a_RULE)] [(.int (1 : Int32))] t
        refine XS.iloadN X9.here hx rfl (hb hby at_32) rfl ?_
        show own_At p e below m T9 33 #[.val (.int p0), .val (.int p1), .val (.int (1 : Int32)), .val (.ref a_RULE)] [(.int (1 : Int32)), (.int (1 : Int32))] t
        refine XS.icmpNo X9.here hx rfl (hb hby at_33) rfl (teq (by decide : (1 : Int32) = (1 : Int32))).2 ?_
        show own_At p e below m T9 36 #[.val (.int p0), .val (.int p1), .val (.int (1 : Int32)), .val (.ref a_RULE)] [] t
        refine XS.iconst X9.here hx rfl (hb hby at_36) ?_
        show own_At p e below m T9 37 #[.val (.int p0), .val (.int p1), .val (.int (1 : Int32)), .val (.ref a_RULE)] [(.int (1 : Int32))] t
        refine XS.goto X9.here hx rfl (pc0 := 37) (pc' := 41) rfl (hb hby at_37) (by decide) (by decide) ?_
        show own_At p e below m T9 41 #[.val (.int p0), .val (.int p1), .val (.int (1 : Int32)), .val (.ref a_RULE)] [(.int (1 : Int32))] t
        exact k
      obtain ⟨fs, hr, hrun, hended, hW, hsame⟩ := X9.leave (v := some (.int (1 : Int32))) (fun h => by rw [Bd.returns] at h; cases h)
      refine hNG ⟨_, _, k10 _ ?_, hrun, hended, _, _, rfl, ?_, ⟨_, rfl⟩, hW, hsame.mono (by decide) (by decide)⟩
      · exact retN X9 hx (t := .boolean) Bd.returns (by simp) (hb hby at_41) hr
      · show Q_law Z p0 p1 a_RULE a_GRANT h0 n0 _ T9.heap _
        rw [hp9]
        exact ⟨rfl, N9⟩
  · have k11 : ∀ t, own_At p e below m s₁ 14 #[.val (.int p0), .val (.int p1), .val (.int (p0 &&& (2147483647 : Int32))), .unset] [(.int (p1 &&& (1 : Int32)))] t → own_En p e below m s₁ #[(.int p0), (.int p1)] maxLocals t := by
      intro t k
      refine k1 t ?_
      refine XS.ifYes X0.here hx rfl (pc0 := 6) (pc' := 11) rfl (hb hby at_6) rfl ((if0 _ _).trans (feq hc2).2) (by decide) (by decide) ?_
      show own_At p e below m s₁ 11 #[.val (.int p0), .val (.int p1), .val (.int (p0 &&& (2147483647 : Int32))), .unset] [] t
      refine XS.iloadN X0.here hx rfl (hb hby at_11) rfl ?_
      show own_At p e below m s₁ 12 #[.val (.int p0), .val (.int p1), .val (.int (p0 &&& (2147483647 : Int32))), .unset] [(.int p1)] t
      refine XS.iconst X0.here hx rfl (hb hby at_12) ?_
      show own_At p e below m s₁ 13 #[.val (.int p0), .val (.int p1), .val (.int (p0 &&& (2147483647 : Int32))), .unset] [(.int (1 : Int32)), (.int p1)] t
      refine XS.iand X0.here hx rfl (hb hby at_13) rfl ?_
      show own_At p e below m s₁ 14 #[.val (.int p0), .val (.int p1), .val (.int (p0 &&& (2147483647 : Int32))), .unset] [(.int (p1 &&& (1 : Int32)))] t
      exact k
    by_cases hc12 : (p1 &&& (1 : Int32)) = (0 : Int32)
    · obtain ⟨T13, X13, e13, st13⟩ := getS2 X0 hx hZ hown (host := "") (Or.inl (own_w hw 9 rfl)) Via.refl e0 (S_GRANT.ext O0.2) (g := (mkF m 23 #[.val (.int p0), .val (.int p1), .val (.int (p0 &&& (2147483647 : Int32))), .unset] [])) rfl (hb hby at_23)
      obtain ⟨cq14, kq14, q14a, q14b, q14c⟩ := isOf hZ e13 (E_GRANT.ext O0.2)
      obtain ⟨_, _, ⟨T14, L14, k14, n14⟩, -, X14, ⟨Lc14, hQ14, l14, y14, z14⟩, st14⟩ := X13.virtualBack hx (y := own_m0) (z := own_m0) hown (mvT hZ (own_w hw 4 rfl)) (mvT hZ (own_w hw 5 rfl)) (notFace_of_selects (args := #[]) (mvT hZ (own_w hw 7 rfl))) (mvT hZ (own_w hw 7 rfl)) (mvT hZ (own_w hw 6 rfl)) (by decide) (backOf (W := 0) (rm_ck l Z a0 hw [] a_GRANT (p0 &&& (2147483647 : Int32)) h0 n0 O0 (own_num hc2)) hZ (own_w hw 8 rfl) (own_w hw 2 rfl) (by decide) (by decide)) q14a q14c (g := (mkF m 29 #[.val (.int p0), .val (.int p1), .val (.int (p0 &&& (2147483647 : Int32))), .val (.ref a_GRANT)] [(.int (p0 &&& (2147483647 : Int32))), (.ref a_GRANT)])) rfl (by rw [hml]; rfl) (Steps.refl _) (argsL := [(.int (p0 &&& (2147483647 : Int32)))]) (rest := []) (lenOf pd__I_I rfl) rfl (by show 2 * 0 + _ ≤ _; exact Nat.le_of_eq rfl) (hb hby at_29) (fun _ _ => ⟨rfl, e13, (by decide : 0 + 0 ≤ _), (by decide : 0 + 0 ≤ _)⟩)
      dsimp only [Pt.U, Pt.locs, Pt.cells, Pt.slots] at X14 l14 y14 z14 st14 hQ14
      subst l14 y14 z14
      obtain ⟨rfl, N14q, hp14⟩ := hQ14
      have N14 := Fr.app N0 N14q
      have k15 : ∀ t, own_At p e below m T14 41 #[.val (.int p0), .val (.int p1), .val (.int (p0 &&& (2147483647 : Int32))), .val (.ref a_GRANT)] [(.int (1 : Int32))] t → own_En p e below m s₁ #[(.int p0), (.int p1)] maxLocals t := by
        intro t k
        refine k11 t ?_
        refine XS.ifYes X0.here hx rfl (pc0 := 14) (pc' := 23) rfl (hb hby at_14) rfl ((if0 _ _).trans (teq hc12).1) (by decide) (by decide) ?_
        show own_At p e below m s₁ 23 #[.val (.int p0), .val (.int p1), .val (.int (p0 &&& (2147483647 : Int32))), .unset] [] t
        refine st13 _ ?_
        show own_At p e below m T13 26 #[.val (.int p0), .val (.int p1), .val (.int (p0 &&& (2147483647 : Int32))), .unset] [(.ref a_GRANT)] t
        refine XS.astoreN X13.here hx rfl (hb hby at_26) rfl rfl (l' := #[.val (.int p0), .val (.int p1), .val (.int (p0 &&& (2147483647 : Int32))), .val (.ref a_GRANT)]) rfl ?_
        show own_At p e below m T13 27 #[.val (.int p0), .val (.int p1), .val (.int (p0 &&& (2147483647 : Int32))), .val (.ref a_GRANT)] [] t
        refine XS.aloadN X13.here hx rfl (hb hby at_27) rfl rfl ?_
        show own_At p e below m T13 28 #[.val (.int p0), .val (.int p1), .val (.int (p0 &&& (2147483647 : Int32))), .val (.ref a_GRANT)] [(.ref a_GRANT)] t
        refine XS.iloadN X13.here hx rfl (hb hby at_28) rfl ?_
        show own_At p e below m T13 29 #[.val (.int p0), .val (.int p1), .val (.int (p0 &&& (2147483647 : Int32))), .val (.ref a_GRANT)] [(.int (p0 &&& (2147483647 : Int32))), (.ref a_GRANT)] t
        refine st14.trans ?_
        show own_At p e below m T14 32 #[.val (.int p0), .val (.int p1), .val (.int (p0 &&& (2147483647 : Int32))), .val (.ref a_GRANT)] [(.int (p0 &&& (2147483647 : Int32)))] t
        refine XS.iloadN X14.here hx rfl (hb hby at_32) rfl ?_
        show own_At p e below m T14 33 #[.val (.int p0), .val (.int p1), .val (.int (p0 &&& (2147483647 : Int32))), .val (.ref a_GRANT)] [(.int (p0 &&& (2147483647 : Int32))), (.int (p0 &&& (2147483647 : Int32)))] t
        refine XS.icmpNo X14.here hx rfl (hb hby at_33) rfl (teq (rfl : (p0 &&& (2147483647 : Int32)) = (p0 &&& (2147483647 : Int32)))).2 ?_
        show own_At p e below m T14 36 #[.val (.int p0), .val (.int p1), .val (.int (p0 &&& (2147483647 : Int32))), .val (.ref a_GRANT)] [] t
        refine XS.iconst X14.here hx rfl (hb hby at_36) ?_
        show own_At p e below m T14 37 #[.val (.int p0), .val (.int p1), .val (.int (p0 &&& (2147483647 : Int32))), .val (.ref a_GRANT)] [(.int (1 : Int32))] t
        refine XS.goto X14.here hx rfl (pc0 := 37) (pc' := 41) rfl (hb hby at_37) (by decide) (by decide) ?_
        show own_At p e below m T14 41 #[.val (.int p0), .val (.int p1), .val (.int (p0 &&& (2147483647 : Int32))), .val (.ref a_GRANT)] [(.int (1 : Int32))] t
        exact k
      obtain ⟨fs, hr, hrun, hended, hW, hsame⟩ := X14.leave (v := some (.int (1 : Int32))) (fun h => by rw [Bd.returns] at h; cases h)
      refine hNG ⟨_, _, k15 _ ?_, hrun, hended, _, _, rfl, ?_, ⟨_, rfl⟩, hW, hsame.mono (by decide) (by decide)⟩
      · exact retN X14 hx (t := .boolean) Bd.returns (by simp) (hb hby at_41) hr
      · show Q_law Z p0 p1 a_RULE a_GRANT h0 n0 _ T14.heap _
        rw [hp14]
        exact ⟨rfl, N14⟩
    · obtain ⟨T16, X16, e16, st16⟩ := getS2 X0 hx hZ hown (host := "") (Or.inl (own_w hw 1 rfl)) Via.refl e0 (S_RULE.ext O0.2) (g := (mkF m 17 #[.val (.int p0), .val (.int p1), .val (.int (p0 &&& (2147483647 : Int32))), .unset] [])) rfl (hb hby at_17)
      obtain ⟨cq17, kq17, q17a, q17b, q17c⟩ := isOf hZ e16 (E_RULE.ext O0.2)
      obtain ⟨_, _, ⟨T17, L17, k17, n17⟩, -, X17, ⟨Lc17, hQ17, l17, y17, z17⟩, st17⟩ := X16.virtualBack hx (y := own_m0) (z := own_m0) hown (mvT hZ (own_w hw 4 rfl)) (mvT hZ (own_w hw 5 rfl)) (notFace_of_selects (args := #[]) (mvT hZ (own_w hw 7 rfl))) (mvT hZ (own_w hw 7 rfl)) (mvT hZ (own_w hw 6 rfl)) (by decide) (backOf (W := 0) (rm_ck l Z a0 hw [] a_RULE (p0 &&& (2147483647 : Int32)) h0 n0 O0 (own_num hc2)) hZ (own_w hw 8 rfl) (own_w hw 2 rfl) (by decide) (by decide)) q17a q17c (g := (mkF m 29 #[.val (.int p0), .val (.int p1), .val (.int (p0 &&& (2147483647 : Int32))), .val (.ref a_RULE)] [(.int (p0 &&& (2147483647 : Int32))), (.ref a_RULE)])) rfl (by rw [hml]; rfl) (Steps.refl _) (argsL := [(.int (p0 &&& (2147483647 : Int32)))]) (rest := []) (lenOf pd__I_I rfl) rfl (by show 2 * 0 + _ ≤ _; exact Nat.le_of_eq rfl) (hb hby at_29) (fun _ _ => ⟨rfl, e16, (by decide : 0 + 0 ≤ _), (by decide : 0 + 0 ≤ _)⟩)
      dsimp only [Pt.U, Pt.locs, Pt.cells, Pt.slots] at X17 l17 y17 z17 st17 hQ17
      subst l17 y17 z17
      obtain ⟨rfl, N17q, hp17⟩ := hQ17
      have N17 := Fr.app N0 N17q
      have k18 : ∀ t, own_At p e below m T17 41 #[.val (.int p0), .val (.int p1), .val (.int (p0 &&& (2147483647 : Int32))), .val (.ref a_RULE)] [(.int (1 : Int32))] t → own_En p e below m s₁ #[(.int p0), (.int p1)] maxLocals t := by
        intro t k
        refine k11 t ?_
        refine XS.ifNo X0.here hx rfl (hb hby at_14) rfl ((if0 _ _).trans (feq hc12).1) ?_
        show own_At p e below m s₁ 17 #[.val (.int p0), .val (.int p1), .val (.int (p0 &&& (2147483647 : Int32))), .unset] [] t
        refine st16 _ ?_
        show own_At p e below m T16 20 #[.val (.int p0), .val (.int p1), .val (.int (p0 &&& (2147483647 : Int32))), .unset] [(.ref a_RULE)] t
        refine XS.goto X16.here hx rfl (pc0 := 20) (pc' := 26) rfl (hb hby at_20) (by decide) (by decide) ?_
        show own_At p e below m T16 26 #[.val (.int p0), .val (.int p1), .val (.int (p0 &&& (2147483647 : Int32))), .unset] [(.ref a_RULE)] t
        refine XS.astoreN X16.here hx rfl (hb hby at_26) rfl rfl (l' := #[.val (.int p0), .val (.int p1), .val (.int (p0 &&& (2147483647 : Int32))), .val (.ref a_RULE)]) rfl ?_
        show own_At p e below m T16 27 #[.val (.int p0), .val (.int p1), .val (.int (p0 &&& (2147483647 : Int32))), .val (.ref a_RULE)] [] t
        refine XS.aloadN X16.here hx rfl (hb hby at_27) rfl rfl ?_
        show own_At p e below m T16 28 #[.val (.int p0), .val (.int p1), .val (.int (p0 &&& (2147483647 : Int32))), .val (.ref a_RULE)] [(.ref a_RULE)] t
        refine XS.iloadN X16.here hx rfl (hb hby at_28) rfl ?_
        show own_At p e below m T16 29 #[.val (.int p0), .val (.int p1), .val (.int (p0 &&& (2147483647 : Int32))), .val (.ref a_RULE)] [(.int (p0 &&& (2147483647 : Int32))), (.ref a_RULE)] t
        refine st17.trans ?_
        show own_At p e below m T17 32 #[.val (.int p0), .val (.int p1), .val (.int (p0 &&& (2147483647 : Int32))), .val (.ref a_RULE)] [(.int (p0 &&& (2147483647 : Int32)))] t
        refine XS.iloadN X17.here hx rfl (hb hby at_32) rfl ?_
        show own_At p e below m T17 33 #[.val (.int p0), .val (.int p1), .val (.int (p0 &&& (2147483647 : Int32))), .val (.ref a_RULE)] [(.int (p0 &&& (2147483647 : Int32))), (.int (p0 &&& (2147483647 : Int32)))] t
        refine XS.icmpNo X17.here hx rfl (hb hby at_33) rfl (teq (rfl : (p0 &&& (2147483647 : Int32)) = (p0 &&& (2147483647 : Int32)))).2 ?_
        show own_At p e below m T17 36 #[.val (.int p0), .val (.int p1), .val (.int (p0 &&& (2147483647 : Int32))), .val (.ref a_RULE)] [] t
        refine XS.iconst X17.here hx rfl (hb hby at_36) ?_
        show own_At p e below m T17 37 #[.val (.int p0), .val (.int p1), .val (.int (p0 &&& (2147483647 : Int32))), .val (.ref a_RULE)] [(.int (1 : Int32))] t
        refine XS.goto X17.here hx rfl (pc0 := 37) (pc' := 41) rfl (hb hby at_37) (by decide) (by decide) ?_
        show own_At p e below m T17 41 #[.val (.int p0), .val (.int p1), .val (.int (p0 &&& (2147483647 : Int32))), .val (.ref a_RULE)] [(.int (1 : Int32))] t
        exact k
      obtain ⟨fs, hr, hrun, hended, hW, hsame⟩ := X17.leave (v := some (.int (1 : Int32))) (fun h => by rw [Bd.returns] at h; cases h)
      refine hNG ⟨_, _, k18 _ ?_, hrun, hended, _, _, rfl, ?_, ⟨_, rfl⟩, hW, hsame.mono (by decide) (by decide)⟩
      · exact retN X17 hx (t := .boolean) Bd.returns (by simp) (hb hby at_41) hr
      · show Q_law Z p0 p1 a_RULE a_GRANT h0 n0 _ T17.heap _
        rw [hp17]
        exact ⟨rfl, N17⟩
set_option maxRecDepth 65536 in
set_option maxHeartbeats 40000000 in
theorem comes_1 {Post : Tables → Env → Array Value → State → Outcome → State → Prop} (hpost : ∀ tb e args s v u, (limb_1_1.after args s (.returned v) u = true ∧ limb_1_2.after args s (.returned v) u = true ∧ True) → FrameEnd s (.returned v) u (Jvm.fieldLocs frame_1_writes args s ++ Jvm.arrayLocs frame_1_arrays args s ++ Jvm.staticLocs frame_1_statics s) 0 0 → Post tb e args s (.returned v) u) :
    ArmFor flags0 classFile x code maxLocals ret World_1 tables_1 room_1 Calls_1 rest_1 Pre_1 Post := by
  intro l hfl _ _ p e ha hc hk s m args below hf hA hF happ hP
  obtain ⟨hcalls, hrest, hpre⟩ := hP
  obtain ⟨-, -, -, hnamed, -, -, -, hat⟩ := (Spec.applies_iff hf).mp happ
  obtain ⟨hg, hn⟩ := and_e (Cond.before_iff.mp (show (Jvm.Cond.and given_1 narrow_1).before args s = true from hpre))
  obtain ⟨g0a, g0b⟩ := and_e hg
  obtain ⟨g1a, g1b⟩ := and_e g0b
  obtain ⟨w0, w1, rfl⟩ : ∃ w0 w1 : Value, args = #[w0, w1] := by
    have hs : args.size = 2 := by simpa [Cond.value, given_1] using g0a
    obtain ⟨L⟩ := args
    match L, hs with
    | [w0, w1], _ => exact ⟨w0, w1, rfl⟩
  have hw := fun d (hd : d ∈ tables_1) => atoms_spec (ws := Jvm.Cond.code x code maxLocals ret :: tables_1) hat d (List.mem_cons_of_mem _ hd)
  have hfit : Fit s := fun {y c} hc i hi => by
    obtain ⟨ha, rfl⟩ := Array.getElem?_eq_some_iff.mp hc
    have q := List.all_eq_true.mp ((Array.all_eq_true_iff_forall_mem.mp hF) _ (Array.getElem_mem ha)) i (List.mem_range.mpr hi)
    simpa [Array.getElem?_eq_getElem hi] using q
  obtain ⟨i0, ei0⟩ := is_v g1a
  obtain rfl : w0 = (.int i0) := Option.some.inj ei0
  obtain ⟨i1, ei1⟩ := is_v g1b
  obtain rfl : w1 = (.int i1) := Option.some.inj ei1
  obtain ⟨hn1a, hn1b⟩ := and_e hn
  obtain ⟨a_RULE, v_a_RULE⟩ := exa_v hn1a
  have S_RULE := Sta.start v_a_RULE (Or.inr ⟨(own_w hw 2 rfl), (own_w hw 3 rfl)⟩)
  have E_RULE := Exa.start v_a_RULE hn1a
  obtain ⟨a_GRANT, v_a_GRANT⟩ := exa_v hn1b
  have S_GRANT := Sta.start v_a_GRANT (Or.inr ⟨(own_w hw 2 rfl), (own_w hw 10 rfl)⟩)
  have E_GRANT := Exa.start v_a_GRANT hn1b
  obtain ⟨n, o, h1, h2, h3, _, L, rfl, ⟨rfl, N⟩, hq⟩ := rm_law l s _ hw tables_1 i0 i1 a_RULE a_GRANT s.heap s.heap.size (Old.start s) ⟨S_RULE, E_RULE, S_GRANT, E_GRANT⟩  p e ha hc hk s m _ below hf ((Spec.applies_iff_loose hf).mp happ).1 ⟨rfl, State.Warmed39.refl s, rfl⟩ trivial
  refine ⟨n, _, h1, h2, h3, hpost _ _ _ _ _ _ ⟨Cond.after_iff.mpr rfl, Cond.after_iff.mpr (eq_i res_at (Term.int_eval (1)) rfl), trivial⟩ ⟨hq.1, hq.2.1, (hq.2.2.sift fun y hy => Or.inr (N y hy)).mono (by decide) (by decide)⟩⟩
theorem main_1_1 : Claimed_1_1 := comes_1 fun _ _ _ _ _ _ h hF => ⟨h.1, hF⟩
theorem main_1_2 : Claimed_1_2 := comes_1 fun _ _ _ _ _ _ h hF => ⟨h.2.1, hF⟩
end Jvm.Pilot.@@N@@
namespace Jvm.Pilot.@@N@@
open Jvm Jvm.ClassFile Sem Op Lib Jvm.Free Jvm.Stand Jvm.Pilot.@@N@@.Jvm.D
/-! MADE BY PROGRAM (witnessworld.py) out of the Statement's table words and the real class files: 12 classes; the members and pool entries that the words name. The judged class is class 1, her method 1. -/
namespace start1
open Jvm.ClassFile
def u (s : String) : CpInfo := .utf8 (stringToUtf16 s)
/-- a pool by its gaps: so many unusable entries, then the entry; so many at the end -/
def gap : Nat → List CpInfo → List CpInfo
  | 0, r => r
  | n + 1, r => .unusable :: gap n r
def poolList (es : List (Nat × CpInfo)) (last : Nat) : List CpInfo := es.foldr (fun e r => gap e.1 (e.2 :: r)) (gap last [])
def pool (es : List (Nat × CpInfo)) (last : Nat) : Array CpInfo := ⟨poolList es last⟩
def fileOf (pool : Array CpInfo) (this : Nat) (attrs : Array Attribute := #[]) (ms : Array MethodInfo := #[]) (fl : Nat := 33) (sup : Nat := 0) (ifs : Array Nat := #[]) (fds : Array FieldInfo := #[]) : ClassFile where
  minorVersion := 0
  majorVersion := 65
  constantPool := pool
  accessFlags := fl
  thisClass := this
  superClass := sup
  interfaces := ifs
  fields := fds
  methods := ms
  attributes := attrs
def plain (name : String) (sup : Option ClassId) : Class where
  name := name
  kind := .ordinary
  loader := none
  accessFlags := 33
  super := sup
  interfaces := #[]
  cf := none
  fields := #[]
  methods := #[]
  instanceTypes := #[]
  staticTypes := #[]
  resolved := #[]
  callSites := []
  init := .initialized
  statics := none
  mirror := none

def pool0 : Array CpInfo := pool [(5, u "<init>"), (0, u "()V"), (1, .class_ 10), (1, u "java/lang/Object")] 113

def k0m0 : Method := { name := "<init>", desc := "()V", sig := { parameters := [], returnType := none }, accessFlags := 1, code := none }
/-- java/lang/Object -/
def k0 : Class := { plain "java/lang/Object" none with
  accessFlags := 33
  interfaces := #[]
  cf := some (fileOf pool0 8 #[] #[{ accessFlags := 1, nameIndex := 5, descriptorIndex := 6, attributes := #[] }] 33 0 #[] #[])
  fields := #[]
  methods := #[k0m0]
  instanceTypes := #[]
  staticTypes := #[]
  resolved := Array.replicate 124 none
  statics := none }

def pool1 : Array CpInfo := pool [(2, .class_ 4), (1, u "java/lang/Object"), (0, u "<init>"), (0, u "()V"), (0, .integer 2147483647), (0, .fieldref 9 10), (0, .class_ 11), (0, .nameAndType 12 13), (0, u "com/example/scoped_authority/scopedauthority/Numbered"), (0, u "RULE"), (0, u "Lcom/example/scoped_authority/scopedauthority/Numbered;"), (0, .fieldref 9 15), (0, .nameAndType 16 13), (0, u "GRANT"), (0, .methodref 9 18), (0, .nameAndType 19 20), (0, u "checked"), (0, u "(I)I"), (0, .class_ 22), (0, u "com/example/scoped_authority/scopedauthority/NumberedCheckedPinLaw"), (2, u "law"), (0, u "(II)Z")] 3

def k1m0 : Method := { name := "<init>", desc := "()V", sig := { parameters := [], returnType := none }, accessFlags := 1, code := none }
def k1c1 : Code := { maxStack := 2, maxLocals := 4, code := code, exceptionTable := #[], attributes := #[] }
def k1m1 : Method := { name := "law", desc := "(II)Z", sig := { parameters := [.int, .int], returnType := some .boolean }, accessFlags := 9, code := some k1c1 }
/-- com/example/scoped_authority/scopedauthority/NumberedCheckedPinLaw -/
def k1 : Class := { plain "com/example/scoped_authority/scopedauthority/NumberedCheckedPinLaw" (some 0) with
  accessFlags := 49
  interfaces := #[]
  cf := some (fileOf pool1 21 #[] #[{ accessFlags := 1, nameIndex := 5, descriptorIndex := 6, attributes := #[] }, { accessFlags := 9, nameIndex := 25, descriptorIndex := 26, attributes := #[] }] 49 2 #[] #[])
  fields := #[]
  methods := #[k1m0, k1m1]
  instanceTypes := #[]
  staticTypes := #[]
  resolved := Array.replicate 30 none
  statics := none }

def pool2 : Array CpInfo := pool [(1, .class_ 2), (0, u "java/lang/constant/Constable"), (0, .class_ 4), (0, u "java/lang/Object")] 6

/-- java/lang/constant/Constable -/
def k2 : Class := { plain "java/lang/constant/Constable" (some 0) with
  accessFlags := 1537
  interfaces := #[]
  cf := some (fileOf pool2 1 #[] #[] 1537 3 #[] #[])
  fields := #[]
  methods := #[]
  instanceTypes := #[]
  staticTypes := #[]
  resolved := Array.replicate 11 none
  statics := none }

def pool3 : Array CpInfo := pool [(1, .class_ 2), (0, u "java/lang/Comparable"), (0, .class_ 4), (0, u "java/lang/Object")] 7

/-- java/lang/Comparable -/
def k3 : Class := { plain "java/lang/Comparable" (some 0) with
  accessFlags := 1537
  interfaces := #[]
  cf := some (fileOf pool3 1 #[] #[] 1537 3 #[] #[])
  fields := #[]
  methods := #[]
  instanceTypes := #[]
  staticTypes := #[]
  resolved := Array.replicate 12 none
  statics := none }

def pool4 : Array CpInfo := pool [(1, .class_ 2), (0, u "java/io/Serializable"), (0, .class_ 4), (0, u "java/lang/Object")] 2

/-- java/io/Serializable -/
def k4 : Class := { plain "java/io/Serializable" (some 0) with
  accessFlags := 1537
  interfaces := #[]
  cf := some (fileOf pool4 1 #[] #[] 1537 3 #[] #[])
  fields := #[]
  methods := #[]
  instanceTypes := #[]
  staticTypes := #[]
  resolved := Array.replicate 7 none
  statics := none }

def pool5 : Array CpInfo := pool [(2, .class_ 4), (1, u "java/lang/Enum"), (0, u "name"), (0, u "Ljava/lang/String;"), (2, u "ordinal"), (0, u "I"), (1, .class_ 14), (1, u "java/lang/Object"), (4, u "hash"), (86, .class_ 108), (1, u "java/lang/Enum$EnumDesc"), (2, .class_ 112), (0, u "java/lang/constant/Constable"), (0, .class_ 114), (0, u "java/lang/Comparable"), (0, .class_ 116), (0, u "java/io/Serializable")] 87

/-- java/lang/Enum -/
def k5 : Class := { plain "java/lang/Enum" (some 0) with
  accessFlags := 1057
  interfaces := #[2, 3, 4]
  cf := some (fileOf pool5 2 #[.nestMembers #[106]] #[] 1057 12 #[111, 113, 115] #[{ accessFlags := 18, nameIndex := 5, descriptorIndex := 6, attributes := #[] }, { accessFlags := 18, nameIndex := 9, descriptorIndex := 10, attributes := #[] }, { accessFlags := 2, nameIndex := 19, descriptorIndex := 10, attributes := #[] }])
  fields := #[{ name := "name", type := (.object "java/lang/String"), accessFlags := 18, slot := 0, constantValue := 0 }, { name := "ordinal", type := .int, accessFlags := 18, slot := 1, constantValue := 0 }, { name := "hash", type := .int, accessFlags := 2, slot := 2, constantValue := 0 }]
  methods := #[]
  instanceTypes := #[(.object "java/lang/String"), .int, .int]
  staticTypes := #[]
  resolved := Array.replicate 204 none
  statics := none }

def pool6 : Array CpInfo := pool [(1, .class_ 2), (0, u "com/example/scoped_authority/scopedauthority/Numbered"), (2, u "RULE"), (0, u "Lcom/example/scoped_authority/scopedauthority/Numbered;"), (2, u "GRANT"), (2, u "$VALUES"), (0, u "[Lcom/example/scoped_authority/scopedauthority/Numbered;"), (6, .class_ 22), (1, u "java/lang/Enum"), (8, u "letter"), (0, u "Ljava/lang/String;"), (2, u "word"), (2, u "plural"), (75, u "checked"), (0, u "(I)I")] 29

def k6c0 : Code := { maxStack := 4, maxLocals := 2, code := prog_36_method_4_code, exceptionTable := #[], attributes := #[] }
def k6m0 : Method := { name := "checked", desc := "(I)I", sig := { parameters := [.int], returnType := some .int }, accessFlags := 0, code := some k6c0 }
/-- com/example/scoped_authority/scopedauthority/Numbered -/
def k6 : Class := { plain "com/example/scoped_authority/scopedauthority/Numbered" (some 5) with
  accessFlags := 16432
  interfaces := #[]
  cf := some (fileOf pool6 1 #[] #[{ accessFlags := 0, nameIndex := 114, descriptorIndex := 115, attributes := #[] }] 16432 20 #[] #[{ accessFlags := 16409, nameIndex := 5, descriptorIndex := 6, attributes := #[] }, { accessFlags := 16409, nameIndex := 9, descriptorIndex := 6, attributes := #[] }, { accessFlags := 18, nameIndex := 31, descriptorIndex := 32, attributes := #[] }, { accessFlags := 18, nameIndex := 35, descriptorIndex := 32, attributes := #[] }, { accessFlags := 18, nameIndex := 38, descriptorIndex := 32, attributes := #[] }, { accessFlags := 4122, nameIndex := 12, descriptorIndex := 13, attributes := #[] }])
  fields := #[{ name := "RULE", type := (.object "com/example/scoped_authority/scopedauthority/Numbered"), accessFlags := 16409, slot := 0, constantValue := 0 }, { name := "GRANT", type := (.object "com/example/scoped_authority/scopedauthority/Numbered"), accessFlags := 16409, slot := 1, constantValue := 0 }, { name := "letter", type := (.object "java/lang/String"), accessFlags := 18, slot := 3, constantValue := 0 }, { name := "word", type := (.object "java/lang/String"), accessFlags := 18, slot := 4, constantValue := 0 }, { name := "plural", type := (.object "java/lang/String"), accessFlags := 18, slot := 5, constantValue := 0 }, { name := "$VALUES", type := (.array (.object "com/example/scoped_authority/scopedauthority/Numbered")), accessFlags := 4122, slot := 2, constantValue := 0 }]
  methods := #[k6m0]
  instanceTypes := #[(.object "java/lang/String"), .int, .int, (.object "java/lang/String"), (.object "java/lang/String"), (.object "java/lang/String")]
  staticTypes := #[(.object "com/example/scoped_authority/scopedauthority/Numbered"), (.object "com/example/scoped_authority/scopedauthority/Numbered"), (.array (.object "com/example/scoped_authority/scopedauthority/Numbered"))]
  resolved := Array.replicate 145 none
  statics := some 0 }

def pool7 : Array CpInfo := pool [(1, u "java/lang/Cloneable"), (0, .class_ 1), (0, u "java/lang/Object"), (0, .class_ 3)] 3

/-- java/lang/Cloneable -/
def k7 : Class := { plain "java/lang/Cloneable" (some 0) with
  accessFlags := 1537
  interfaces := #[]
  cf := some (fileOf pool7 2 #[] #[] 1537 4 #[] #[])
  fields := #[]
  methods := #[]
  instanceTypes := #[]
  staticTypes := #[]
  resolved := Array.replicate 8 none
  statics := none }

/-- the primitive byte -/
def k8 : Class := { plain "byte" none with kind := .primitive 'B', accessFlags := 0x411 }
/-- [B -/
def k9 : Class := { plain "[B" (some 0) with kind := .array 8 .byte, interfaces := #[7, 4], accessFlags := 1041 }

/-- the primitive int -/
def k10 : Class := { plain "int" none with kind := .primitive 'I', accessFlags := 0x411 }
/-- [I -/
def k11 : Class := { plain "[I" (some 0) with kind := .array 10 .int, interfaces := #[7, 4], accessFlags := 1041 }

def heap : Heap := #[{ cls := 6, slots := #[.ref 1, .ref 2, .null], vm := .statics 6 },
  { cls := 6, slots := #[.null, .int 0, .int 0, .null, .null, .null], vm := .none },
  { cls := 6, slots := #[.null, .int 0, .int 0, .null, .null, .null], vm := .none }]
def classes : Array Class := #[k0, k1, k2, k3, k4, k5, k6, k7, k8, k9, k10, k11]
def interned : List (Array UInt16 × Addr) := []
def slotsUsed : Nat := 15
def theMethod : MethodId := ⟨1, 1⟩
def args0 : Array Value := #[.int 5, .int 3]
def aboutOver (below : List Frame) : State where
  vm := { classes := classes, interned := interned.toArray }
  heap := heap
  slotsUsed := slotsUsed
  threads := #[{ frames := .invoking theMethod args0 :: below }]
def below0 : List Frame := [.native { method := ⟨0, 0⟩, args := #[] }]
def about1 : State := aboutOver below0
def p0 : Program := .bare "" "" ""
def e0 : Env := launch0.env 0 0 0
theorem w_frames : about1.frames = Frame.invoking theMethod args0 :: below0 := rfl
set_option maxRecDepth 65536 in
theorem w_args : argsFit about1.vm theMethod args0 = true := by decide +kernel
set_option maxRecDepth 65536 in
theorem w_heap : heapFits about1 = true := by decide +kernel
set_option maxRecDepth 65536 in
theorem w_runnable : about1.curStatus? = some .runnable := by decide +kernel
set_option maxRecDepth 65536 in
theorem w_alone : about1.alone = true := by decide +kernel
set_option maxRecDepth 65536 in
theorem w_named : about1.methodNamed? x = some theMethod := by decide +kernel
set_option maxRecDepth 65536 in
theorem w_hears : about1.hears theMethod below0 = true := by decide +kernel
set_option maxRecDepth 65536 in
theorem w_ripe : about1.ripe theMethod args0 below0 = true := by decide +kernel
theorem w_running : about1.status = .running := rfl
set_option maxRecDepth 65536 in
theorem w_room : about1.hasRoom e0.platform room_1 = true :=
  launch0.hasRoom_least _ room_1 (by decide +kernel) (by decide +kernel) (by decide +kernel) (by decide +kernel) (by decide +kernel) (by decide +kernel)
theorem allAtoms_all (ts : List Jvm.Cond) (a : Array Jvm.Value) (st : Jvm.State) : (allAtoms ts).before a st = ts.all (fun c => c.before a st) := by
  induction ts with
  | nil => rfl
  | cons c t ih =>
    show (Jvm.Cond.and c (allAtoms t)).before a st = _
    rw [Jvm.Cond.before_and, ih, List.all_cons]
def words1 : List Jvm.Cond := Jvm.Cond.code x code maxLocals ret :: tables_1
/-- a 'code' word, met by the world's own term for the bytes: nothing is compared byte by byte -/
theorem code_word {y : MethodName} {bytes : ByteArray} {mx : Nat} {rt : Option FieldType} {a : Array Value} {s : State} {m : MethodId} {meth : Method} {c : Code} (h1 : s.methodNamed? y = some m) (h2 : s.vm.method? m = some meth) (h3 : meth.code = some c) (h4 : c.code = bytes)
    (h5 : (c.maxLocals == mx && c.exceptionTable.isEmpty && decide (c.maxStack ≤ mostOperands) && decide (meth.sig.returnType = rt) && !meth.locks && decide (parseMethodDescriptor y.desc = some meth.sig)) = true) : (Jvm.Cond.code y bytes mx rt).before a s = true := by
  simp only [Bool.and_eq_true, beq_iff_eq, Bool.not_eq_true', decide_eq_true_eq] at h5
  obtain ⟨⟨⟨⟨⟨g1, g2⟩, g3⟩, g4⟩, g5⟩, g6⟩ := h5
  simp [Cond.before, Cond.holds, Cond.value, h1, h2, h3, h4, g1, g2, g3, g4, g5, g6]
def isCode : Jvm.Cond → Bool
  | .code _ _ _ _ => true
  | _ => false
theorem all_split {L : List Jvm.Cond} {P : Jvm.Cond → Bool} (h1 : L.all (fun c => isCode c || P c) = true) (h2 : ∀ c ∈ L.filter isCode, P c = true) : L.all P = true := by
  refine List.all_eq_true.mpr fun c hc => ?_
  have h := List.all_eq_true.mp h1 c hc
  rcases Bool.eq_false_or_eq_true (isCode c) with hi | hi
  · exact h2 c (List.mem_filter.mpr ⟨hc, hi⟩)
  · simpa [hi] using h
set_option maxRecDepth 65536 in
theorem w_c0 : (Jvm.Cond.code x code maxLocals ret).before args0 about1 = true := code_word (m := ⟨1, 1⟩) (meth := k1m1) (c := k1c1) (by decide +kernel) rfl rfl rfl (by decide +kernel)
set_option maxRecDepth 65536 in
theorem w_c1 : (Jvm.Cond.code ({ cls := "com/example/scoped_authority/scopedauthority/Numbered", name := "checked", desc := "(I)I" } : Jvm.MethodName) prog_36_method_4_code (2 : Nat) (Option.some Jvm.ClassFile.FieldType.int)).before args0 about1 = true := code_word (m := ⟨6, 0⟩) (meth := k6m0) (c := k6c0) (by decide +kernel) rfl rfl rfl (by decide +kernel)
def codes1 : List Jvm.Cond := [Jvm.Cond.code x code maxLocals ret, Jvm.Cond.code ({ cls := "com/example/scoped_authority/scopedauthority/Numbered", name := "checked", desc := "(I)I" } : Jvm.MethodName) prog_36_method_4_code (2 : Nat) (Option.some Jvm.ClassFile.FieldType.int)]
set_option maxRecDepth 65536 in
theorem codes_eq : words1.filter isCode = codes1 := rfl
theorem w_codes : ∀ c ∈ words1.filter isCode, c.before args0 about1 = true := by
  rw [codes_eq]
  intro c hc
  simp only [codes1, List.mem_cons, List.not_mem_nil, or_false] at hc
  rcases hc with rfl | rfl
  · exact w_c0
  · exact w_c1
set_option maxRecDepth 65536 in
theorem w_t1 : words1.all (fun c => isCode c || c.before args0 about1) = true := by decide +kernel
theorem w_tables : (allAtoms (Jvm.Cond.code x code maxLocals ret :: tables_1)).before args0 about1 = true := by
  rw [allAtoms_all]
  show words1.all (fun c => c.before args0 about1) = true
  refine all_split ?_ w_codes
  rw [w_t1]
set_option maxRecDepth 65536 in
theorem w_case : (Jvm.Cond.and given_1 narrow_1).before args0 about1 = true := by decide +kernel
theorem w_applies : (headSpec (Jvm.Cond.code x code maxLocals ret :: tables_1) room_1).applies x e0.platform about1 = true :=
  (Spec.applies_iff w_frames).mpr ⟨w_running, w_runnable, w_alone, w_named, w_hears, w_ripe, w_room, w_tables⟩
theorem atStart : AtStart classFile x code maxLocals ret World_1 tables_1 room_1 Calls_1 rest_1 Pre_1 launch0 p0 e0 about1 theMethod args0 below0 :=
  ⟨lists_1, trivial, launch0.admits_env _ _ _, launch0.least_env, fairChoices_fair.cas, fairChoices_fair.clock, w_frames, w_args, w_heap, w_applies, trivial, trivial, w_case⟩
end start1
theorem witness_1 : WitnessClaimed_1 := ⟨start1.p0, start1.e0, start1.about1, start1.theMethod, start1.args0, start1.below0, start1.atStart⟩
end Jvm.Pilot.@@N@@
