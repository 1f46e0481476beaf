import JvmDerived
import JvmDerived.Pilot.@@N@@Statement
import JvmDerived.Pilot.@@N@@Code
set_option linter.unusedVariables false
set_option linter.unusedSimpArgs false
namespace Jvm.Pilot.@@N@@
open Jvm Jvm.ClassFile Sem Op Lib Jvm.Free Jvm.Stand Jvm.LawKit Jvm.RoadKit Bundle Jvm.Pilot.@@N@@.Jvm.D
abbrev own_At (p : Program) (e : Env) (below : List Frame) (m : MethodId) (T : State) (pc : Nat) (ls : Array Slot) (st : List Value) (t : State) : Prop := Steps p.tables e below (T.setTop (mkF m pc ls st)) t
abbrev own_En (p : Program) (e : Env) (below : List Frame) (m : MethodId) (T : State) (a : Array Value) (n : Nat) (t : State) : Prop := Steps p.tables e below (T.setTop (entryFrame m a n)) t
theorem own_w {a0 : Array Value} {Z : State} (hw : ∀ d ∈ tables_1, d.before a0 Z = true) (i : Nat) {d : Jvm.Cond} (h : tables_1[i]? = some d) : d.before a0 Z = true := hw d (List.mem_of_getElem? h)
theorem own_eqI {t : Term} {k : Int32} {args : Array Value} {s : State} (h : (Jvm.Cond.eq t (.int k)).value args s none s [] = some true) : t.eval args s none [] s = some (.int k) := by
  have e : (Term.int k).eval args s none [] s = some (.int k) := rfl
  simp only [Cond.value, e] at h
  cases ht : t.eval args s none [] s with
  | none => simp [ht] at h
  | some x => cases x <;> simp [ht] at h ⊢; exact h
theorem own_neI {t : Term} {k z : Int32} {args : Array Value} {s : State} (e : t.eval args s none [] s = some (.int z)) (h : (Jvm.Cond.not (Jvm.Cond.eq t (.int k))).value args s none s [] = some true) : ¬ (z = k) := by
  have q := not_v h
  have e2 : (Term.int k).eval args s none [] s = some (.int k) := rfl
  simp only [Cond.value, e, e2, Bool.not_true, Option.some.injEq, decide_eq_false_iff_not] at q
  exact q
theorem own_neR {t u : Term} {a b : Addr} {args : Array Value} {s : State} (ea : t.eval args s none [] s = some (.ref a)) (eb : u.eval args s none [] s = some (.ref b)) (h : (Jvm.Cond.not (Jvm.Cond.eq t u)).value args s none s [] = some true) : ¬ (a = b) := by
  have q := not_v h
  rw [eq_R ea eb rfl rfl] at q
  intro e
  rw [e] at q
  simp at q
theorem own_eqJ {t : Term} {k : Int64} {args : Array Value} {s : State} (h : (Jvm.Cond.eq t (.long k)).value args s none s [] = some true) : t.eval args s none [] s = some (.long k) := by
  have e : (Term.long k).eval args s none [] s = some (.long k) := rfl
  simp only [Cond.value, e] at h
  cases ht : t.eval args s none [] s with
  | none => simp [ht] at h
  | some x => cases x <;> simp [ht] at h ⊢; exact h
theorem own_len {t : Term} {n : Int32} {a : Addr} {cl : Cell} {ty : FieldType} {args : Array Value} {s : State} (ev : t.eval args s none [] s = some (.ref a)) (A : Arr s s.heap a cl ty) (h : (Jvm.Cond.eq (.length t) (.int n)).value args s none s [] = some true) : cl.slots.size < 2 ^ 31 ∧ cl.slots.size.toInt32 = n := by
  have q := own_eqI h
  have hA := A.fin (Vm.Alike.refl _)
  simp only [Term.eval, ev, hA, Option.bind_eq_bind, Option.bind_some] at q
  split at q
  · rename_i hl
    exact ⟨hl, Value.int.inj (Option.some.inj q)⟩
  · cases q
theorem own_elem {t u : Term} {j : Int32} {a : Addr} {v : Value} {cl : Cell} {ty : FieldType} {args : Array Value} {s : State} (ev : t.eval args s none [] s = some (.ref a)) (A : Arr s s.heap a cl ty) (h : (Term.elem t (.int j)).eval args s none [] s = some v) (i : Nat) (hi : j.toNatClampNeg = i) : cl.slots[i]? = some v := by
  have q := (elem_in h ev (rfl : (Term.int j).eval args s none [] s = some (.int j)) A.1).2
  rw [hi] at q; exact q
/-- an array as it stood at the start, that may be cloned -/
def own_Cln (Z : State) (h : Heap) (a : Addr) (ty : FieldType) (n : Int32) (vs : List Value) (d : Value) : Prop := ∃ c : Cell, Arr Z h a c ty ∧ FitC Z c ∧ c.slots.size = n.toNatClampNeg ∧ ¬ n < 0 ∧ Has c vs d ∧ ∀ i, i < c.slots.size → fits ty (vs.getD i d) = true
theorem own_Cln.ext {Z : State} {h h' : Heap} {a : Addr} {ty : FieldType} {n : Int32} {vs : List Value} {d : Value} (F : own_Cln Z h a ty n vs d) (E : Ext h h') : own_Cln Z h' a ty n vs d := by
  obtain ⟨c, A, r⟩ := F; exact ⟨c, A.ext E, r⟩
theorem own_Cln.start {Z : State} {a : Addr} {cl : Cell} {ty : FieldType} {z : Int32} {vs : List Value} {dv : Value} (hf : Fit Z) (A : Arr Z Z.heap a cl ty) (q : cl.slots.size < 2 ^ 31 ∧ cl.slots.size.toInt32 = z) (hz : ¬ z < 0) (hl : z.toNatClampNeg = vs.length) (H : HasL cl 0 vs) : own_Cln Z Z.heap a ty z vs dv := by
  have S : cl.slots.size = z.toNatClampNeg := by rw [← q.2]; simp only [Int32.toNatClampNeg, len_toInt q.1]; rfl
  have H' : Has cl vs dv := fun j hj => by have := HasL.at (dv := dv) vs 0 H j (by rw [← hl, ← S]; exact hj); rwa [Nat.zero_add] at this
  refine ⟨cl, A, FitC.start hf A, S, hz, H', fun j hj => ?_⟩
  have e1 : (Nat.toInt32 j).toNatClampNeg = j := by simp only [Int32.toNatClampNeg, len_toInt (Nat.lt_trans hj q.1)]; rfl
  exact elem_fits (j := Nat.toInt32 j) hf A (idx_in hj q.1) (by rw [e1]; exact H' j hj)
theorem own_Cln.arv {Z : State} {h : Heap} {a : Addr} {ty : FieldType} {n : Int32} {vs : List Value} {d : Value} (F : own_Cln Z h a ty n vs d) : ∃ k, Arv Z h a k ty n vs d := by
  obtain ⟨c, A, -, r⟩ := F; exact ⟨c.cls, c, A, rfl, r⟩
theorem own_eqR {t u : Term} {b : Addr} {args : Array Value} {s : State} (h : (Jvm.Cond.eq t u).value args s none s [] = some true) (e : u.eval args s none [] s = some (.ref b)) : t.eval args s none [] s = some (.ref b) := by
  simp only [Cond.value, e] at h
  cases ht : t.eval args s none [] s with
  | none => simp [ht] at h
  | some x => cases x <;> simp [ht] at h ⊢; exact h
def EV (Z : State) (a_MANAGEMENT : Addr) (a_GIVE : Addr) (a_OWNERSHIP : Addr) (a_ADMIN : Addr) : Prop := Sta Z Z.heap "com/example/scoped_authority/scopedauthority/Authority" "MANAGEMENT" "Lcom/example/scoped_authority/scopedauthority/Authority;" (.ref a_MANAGEMENT) ∧ Exa Z Z.heap a_MANAGEMENT "com/example/scoped_authority/scopedauthority/Authority" ∧ Sta Z Z.heap "com/example/scoped_authority/scopedauthority/Authority" "GIVE" "Lcom/example/scoped_authority/scopedauthority/Authority;" (.ref a_GIVE) ∧ Exa Z Z.heap a_GIVE "com/example/scoped_authority/scopedauthority/Authority" ∧ Fld Z Z.heap a_GIVE "java/lang/Enum" "ordinal" "I" (.int (3 : Int32)) ∧ Fld Z Z.heap a_MANAGEMENT "java/lang/Enum" "ordinal" "I" (.int (0 : Int32)) ∧ Sta Z Z.heap "com/example/scoped_authority/scopedauthority/Authority" "OWNERSHIP" "Lcom/example/scoped_authority/scopedauthority/Authority;" (.ref a_OWNERSHIP) ∧ Exa Z Z.heap a_OWNERSHIP "com/example/scoped_authority/scopedauthority/Authority" ∧ Fld Z Z.heap a_GIVE "com/example/scoped_authority/scopedauthority/Authority" "under" "Lcom/example/scoped_authority/scopedauthority/Authority;" (.ref a_OWNERSHIP) ∧ Fld Z Z.heap a_OWNERSHIP "java/lang/Enum" "ordinal" "I" (.int (1 : Int32)) ∧ Sta Z Z.heap "com/example/scoped_authority/scopedauthority/Authority" "ADMIN" "Lcom/example/scoped_authority/scopedauthority/Authority;" (.ref a_ADMIN) ∧ Exa Z Z.heap a_ADMIN "com/example/scoped_authority/scopedauthority/Authority" ∧ Fld Z Z.heap a_ADMIN "java/lang/Enum" "ordinal" "I" (.int (2 : Int32)) ∧ Fld Z Z.heap a_OWNERSHIP "com/example/scoped_authority/scopedauthority/Authority" "under" "Lcom/example/scoped_authority/scopedauthority/Authority;" .null ∧ Fld Z Z.heap a_MANAGEMENT "com/example/scoped_authority/scopedauthority/Authority" "under" "Lcom/example/scoped_authority/scopedauthority/Authority;" .null ∧ Fld Z Z.heap a_ADMIN "com/example/scoped_authority/scopedauthority/Authority" "under" "Lcom/example/scoped_authority/scopedauthority/Authority;" (.ref a_MANAGEMENT)
theorem own_and3 (p : Int32) : (p &&& (3 : Int32)) = (0 : Int32) ∨ (p &&& (3 : Int32)) = (1 : Int32) ∨ (p &&& (3 : Int32)) = (2 : Int32) ∨ (p &&& (3 : Int32)) = (3 : Int32) := by
  have e := c_mask p (3 : Int32) 2 (by decide) (by decide)
  have e0 : (0 : Int32).toInt = 0 := by decide
  have e1 : (1 : Int32).toInt = 1 := by decide
  have e2 : (2 : Int32).toInt = 2 := by decide
  have e3 : (3 : Int32).toInt = 3 := by decide
  simp only [← Int32.toInt_inj, e, e0, e1, e2, e3]
  omega
theorem ef_law (m : MethodId) (x0 : Int32) (x1 : Int32)  : entryFrame m #[(.int x0), (.int x1)] maxLocals = mkF m 0 #[.val (.int x0), .val (.int x1), .unset, .unset, .unset] [] := by first | (simp [entryFrame, mkF, argsToLocals, Value.category, maxLocals]; done) | rfl
theorem ef_f1 (m : MethodId) (x0 : Int32)  : entryFrame m #[(.int x0)] 1 = mkF m 0 #[.val (.int x0)] [] := by first | (simp [entryFrame, mkF, argsToLocals, Value.category]; done) | rfl
theorem d_method_2_code_0 : decode method_2_code 0 = .ok (.iload_n 0, 1) := by decide +kernel
theorem d_method_2_code_1 : decode method_2_code 1 = .ok (.ifCond .ne 7, 3) := by decide +kernel
theorem d_method_2_code_4 : decode method_2_code 4 = .ok (.getstatic 7, 3) := by decide +kernel
theorem d_method_2_code_7 : decode method_2_code 7 = .ok (.areturn, 1) := by decide +kernel
theorem pn_com_example_scoped_authority_scopedauthority_AuthorityIncludesPinLaw : plainName "com/example/scoped_authority/scopedauthority/AuthorityIncludesPinLaw" = true := by first | (simp [plainName, overriddenIn]; done) | decide +kernel
abbrev own_m0 : MethodName := ⟨"com/example/scoped_authority/scopedauthority/AuthorityIncludesPinLaw", "pick", "(I)Lcom/example/scoped_authority/scopedauthority/Authority;"⟩
def Q_f1 (Z : State) (a_MANAGEMENT : Addr) (a_GIVE : Addr) (a_OWNERSHIP : Addr) (a_ADMIN : Addr) (h0 : Heap) (n0 : Nat) (v : Option Value) (h : Heap) (L : List Loc) : Prop := v = some (.ref a_MANAGEMENT) ∧ Fr n0 L ∧ h = h0
set_option maxRecDepth 65536 in
set_option maxHeartbeats 40000000 in
theorem rm_f1 (l : Launch) (Z : State) (a0 : Array Value) (hw : ∀ d ∈ tables_1, d.before a0 Z = true) (ws : List Jvm.Cond) (a_MANAGEMENT : Addr) (a_GIVE : Addr) (a_OWNERSHIP : Addr) (a_ADMIN : Addr) (h0 : Heap) (n0 : Nat) (O0 : Old Z n0 h0) (hE : EV Z a_MANAGEMENT a_GIVE a_OWNERSHIP a_ADMIN) :
    MetFree l own_m0 (head1 (Jvm.Cond.code own_m0 method_2_code 1 (some (.object "com/example/scoped_authority/scopedauthority/Authority")) :: ws) ({ frames := 0, cells := 0, slots := 0, locals := 0 } : Room)) (fun a U => a = #[(.int (0 : Int32))] ∧ Z.Warmed39 U.vm ∧ U.heap = h0) (fun _ _ _ _ _ => True) (fun _ U o U' => ∃ v L, o = .returned v ∧ Q_f1 Z a_MANAGEMENT a_GIVE a_OWNERSHIP a_ADMIN h0 n0 v U'.heap L ∧ FrameEnd U o U' L ({ frames := 0, cells := 0, slots := 0, locals := 0 } : Room).cells ({ frames := 0, cells := 0, slots := 0, locals := 0 } : Room).slots) := by
  refine MetFree.of_bodySF (plainFor_of_name pn_com_example_scoped_authority_scopedauthority_AuthorityIncludesPinLaw) hisR ?_
  intro p e s m args below meth c s₁ Bd hml0 hP hK
  obtain ⟨rfl, hZ, hh⟩ := hP
  have hx := Bd.exec
  have hby := Bd.bytes
  have hml : c.maxLocals = 1 := hml0
  have hown : s.vm.findClass "com/example/scoped_authority/scopedauthority/AuthorityIncludesPinLaw" = some m.cls := findClass_of_methodNamed Bd.named
  have hnm := (name_of_methodNamed Bd.named Bd.method).1
  have X0 : Stand p l e ({ frames := 0, cells := 0, slots := 0, locals := 0 } : Room) s m #[(.int (0 : Int32))] below meth c s₁ [] 0 0 := Stand.of_body Bd
  have e0 : s₁.heap = h0 := by rw [← hh, Bd.state]; rfl
  have N0 := Fr.nil n0
  refine Classical.byContradiction fun hNG => ?_
  have K0 := Keep.refl h0 []
  have k0 : ∀ t, own_At p e below m s₁ 0 #[.val (.int (0 : Int32))] [] t → own_En p e below m s₁ #[(.int (0 : Int32))] 1 t := fun t k => castTop (ef_f1 m ((0 : Int32)) ) k
  obtain ⟨S_MANAGEMENT, E_MANAGEMENT, S_GIVE, E_GIVE, F_GIVE_ordinal, F_MANAGEMENT_ordinal, S_OWNERSHIP, E_OWNERSHIP, F_GIVE_under, F_OWNERSHIP_ordinal, S_ADMIN, E_ADMIN, F_ADMIN_ordinal, F_OWNERSHIP_under, F_MANAGEMENT_under, F_ADMIN_under⟩ := (id hE : EV Z a_MANAGEMENT a_GIVE a_OWNERSHIP a_ADMIN)
  obtain ⟨T1, X1, e1, st1⟩ := getS2 X0 hx hZ hown (host := "") (Or.inl (own_w hw 4 rfl)) Via.refl e0 (S_MANAGEMENT.ext O0.2) (g := (mkF m 4 #[.val (.int (0 : Int32))] [])) rfl (hb hby d_method_2_code_4)
  have k2 : ∀ t, own_At p e below m T1 7 #[.val (.int (0 : Int32))] [(.ref a_MANAGEMENT)] t → own_En p e below m s₁ #[(.int (0 : Int32))] 1 t := by
    intro t k
    refine k0 t ?_
    refine XS.iloadN X0.here hx rfl (hb hby d_method_2_code_0) rfl ?_
    show own_At p e below m s₁ 1 #[.val (.int (0 : Int32))] [(.int (0 : Int32))] t
    refine XS.ifNo X0.here hx rfl (hb hby d_method_2_code_1) rfl ((if0 _ _).trans (teq (by decide : (0 : Int32) = (0 : Int32))).2) ?_
    show own_At p e below m s₁ 4 #[.val (.int (0 : Int32))] [] t
    refine st1 _ ?_
    show own_At p e below m T1 7 #[.val (.int (0 : Int32))] [(.ref a_MANAGEMENT)] t
    exact k
  obtain ⟨fs, hr, hrun, hended, hW, hsame⟩ := X1.leave (v := some (.ref a_MANAGEMENT)) (fun h => by rw [Bd.returns] at h; cases h)
  refine hNG ⟨_, _, k2 _ ?_, hrun, hended, _, _, rfl, ?_, ⟨_, rfl⟩, hW, hsame.mono (by decide) (by decide)⟩
  · exact retOut X1 hx (t := (.object "com/example/scoped_authority/scopedauthority/Authority")) Bd.returns rfl (Or.inr (Or.inr (Or.inr (Or.inr ⟨rfl, rfl, rfl⟩)))) (hb hby d_method_2_code_7) hr
  · show Q_f1 Z a_MANAGEMENT a_GIVE a_OWNERSHIP a_ADMIN h0 n0 _ T1.heap _
    rw [e1]
    exact ⟨rfl, N0, rfl⟩
theorem pd__I_Lcom_example_scoped_authority_scopedauthority_Authority_ : parseMethodDescriptor "(I)Lcom/example/scoped_authority/scopedauthority/Authority;" = some ⟨[.int], some (.object "com/example/scoped_authority/scopedauthority/Authority")⟩ := by decide +kernel
theorem ef_f2 (m : MethodId) (x0 : Addr) (x1 : Addr)  : entryFrame m #[(.ref x0), (.ref x1)] 2 = mkF m 0 #[.val (.ref x0), .val (.ref x1)] [] := by first | (simp [entryFrame, mkF, argsToLocals, Value.category]; done) | rfl
theorem d_prog_14_method_8_code_0 : decode prog_14_method_8_code 0 = .ok (.aload_n 1, 1) := by decide +kernel
theorem d_prog_14_method_8_code_1 : decode prog_14_method_8_code 1 = .ok (.aload_n 0, 1) := by decide +kernel
theorem d_prog_14_method_8_code_2 : decode prog_14_method_8_code 2 = .ok (.if_acmp .eq 11, 3) := by decide +kernel
theorem d_prog_14_method_8_code_13 : decode prog_14_method_8_code 13 = .ok (.iconst 1, 1) := by decide +kernel
theorem d_prog_14_method_8_code_14 : decode prog_14_method_8_code 14 = .ok (.goto 4, 3) := by decide +kernel
theorem d_prog_14_method_8_code_18 : decode prog_14_method_8_code 18 = .ok (.ireturn, 1) := by decide +kernel
theorem pn_com_example_scoped_authority_scopedauthority_Authority : plainName "com/example/scoped_authority/scopedauthority/Authority" = true := by first | (simp [plainName, overriddenIn]; done) | decide +kernel
abbrev own_m1 : MethodName := ⟨"com/example/scoped_authority/scopedauthority/Authority", "includes", "(Lcom/example/scoped_authority/scopedauthority/Authority;)Z"⟩
def Q_f2 (Z : State) (a_MANAGEMENT : Addr) (a_GIVE : Addr) (a_OWNERSHIP : Addr) (a_ADMIN : Addr) (h0 : Heap) (n0 : Nat) (v : Option Value) (h : Heap) (L : List Loc) : Prop := v = some (.int (1 : Int32)) ∧ Fr n0 L ∧ h = h0
set_option maxRecDepth 65536 in
set_option maxHeartbeats 40000000 in
theorem rm_f2 (l : Launch) (Z : State) (a0 : Array Value) (hw : ∀ d ∈ tables_1, d.before a0 Z = true) (ws : List Jvm.Cond) (a_MANAGEMENT : Addr) (a_GIVE : Addr) (a_OWNERSHIP : Addr) (a_ADMIN : Addr) (h0 : Heap) (n0 : Nat) (O0 : Old Z n0 h0) (hE : EV Z a_MANAGEMENT a_GIVE a_OWNERSHIP a_ADMIN) :
    MetFree l own_m1 (head1 (Jvm.Cond.code own_m1 prog_14_method_8_code 2 (some .boolean) :: ws) ({ frames := 0, cells := 0, slots := 0, locals := 0 } : Room)) (fun a U => a = #[(.ref a_MANAGEMENT), (.ref a_MANAGEMENT)] ∧ Z.Warmed39 U.vm ∧ U.heap = h0) (fun _ _ _ _ _ => True) (fun _ U o U' => ∃ v L, o = .returned v ∧ Q_f2 Z a_MANAGEMENT a_GIVE a_OWNERSHIP a_ADMIN h0 n0 v U'.heap L ∧ FrameEnd U o U' L ({ frames := 0, cells := 0, slots := 0, locals := 0 } : Room).cells ({ frames := 0, cells := 0, slots := 0, locals := 0 } : Room).slots) := by
  refine MetFree.of_bodySF (plainFor_of_name pn_com_example_scoped_authority_scopedauthority_Authority) hisR ?_
  intro p e s m args below meth c s₁ Bd hml0 hP hK
  obtain ⟨rfl, hZ, hh⟩ := hP
  have hx := Bd.exec
  have hby := Bd.bytes
  have hml : c.maxLocals = 2 := hml0
  have hown : s.vm.findClass "com/example/scoped_authority/scopedauthority/Authority" = some m.cls := findClass_of_methodNamed Bd.named
  have hnm := (name_of_methodNamed Bd.named Bd.method).1
  have X0 : Stand p l e ({ frames := 0, cells := 0, slots := 0, locals := 0 } : Room) s m #[(.ref a_MANAGEMENT), (.ref a_MANAGEMENT)] below meth c s₁ [] 0 0 := Stand.of_body Bd
  have e0 : s₁.heap = h0 := by rw [← hh, Bd.state]; rfl
  have N0 := Fr.nil n0
  refine Classical.byContradiction fun hNG => ?_
  have K0 := Keep.refl h0 []
  have k0 : ∀ t, own_At p e below m s₁ 0 #[.val (.ref a_MANAGEMENT), .val (.ref a_MANAGEMENT)] [] t → own_En p e below m s₁ #[(.ref a_MANAGEMENT), (.ref a_MANAGEMENT)] 2 t := fun t k => castTop (ef_f2 m a_MANAGEMENT a_MANAGEMENT ) k
  obtain ⟨S_MANAGEMENT, E_MANAGEMENT, S_GIVE, E_GIVE, F_GIVE_ordinal, F_MANAGEMENT_ordinal, S_OWNERSHIP, E_OWNERSHIP, F_GIVE_under, F_OWNERSHIP_ordinal, S_ADMIN, E_ADMIN, F_ADMIN_ordinal, F_OWNERSHIP_under, F_MANAGEMENT_under, F_ADMIN_under⟩ := (id hE : EV Z a_MANAGEMENT a_GIVE a_OWNERSHIP a_ADMIN)
  have k1 : ∀ t, own_At p e below m s₁ 18 #[.val (.ref a_MANAGEMENT), .val (.ref a_MANAGEMENT)] [(.int (1 : Int32))] t → own_En p e below m s₁ #[(.ref a_MANAGEMENT), (.ref a_MANAGEMENT)] 2 t := by
    intro t k
    refine k0 t ?_
    refine XS.aloadN X0.here hx rfl (hb hby d_prog_14_method_8_code_0) rfl rfl ?_
    show own_At p e below m s₁ 1 #[.val (.ref a_MANAGEMENT), .val (.ref a_MANAGEMENT)] [(.ref a_MANAGEMENT)] t
    refine XS.aloadN X0.here hx rfl (hb hby d_prog_14_method_8_code_1) rfl rfl ?_
    show own_At p e below m s₁ 2 #[.val (.ref a_MANAGEMENT), .val (.ref a_MANAGEMENT)] [(.ref a_MANAGEMENT), (.ref a_MANAGEMENT)] t
    refine Jvm.RoadKit.acmp (g := (mkF m 2 #[.val (.ref a_MANAGEMENT), .val (.ref a_MANAGEMENT)] [(.ref a_MANAGEMENT), (.ref a_MANAGEMENT)])) X0 hx rfl rfl rfl (pc0 := 2) (pc' := 13) (same := true) rfl (hb hby d_prog_14_method_8_code_2) rfl (decide_eq_true rfl) (by decide) (by decide) ?_
    show own_At p e below m s₁ 13 #[.val (.ref a_MANAGEMENT), .val (.ref a_MANAGEMENT)] [] t
    refine XS.iconst X0.here hx rfl (hb hby d_prog_14_method_8_code_13) ?_
    show own_At p e below m s₁ 14 #[.val (.ref a_MANAGEMENT), .val (.ref a_MANAGEMENT)] [(.int (1 : Int32))] t
    refine XS.goto X0.here hx rfl (pc0 := 14) (pc' := 18) rfl (hb hby d_prog_14_method_8_code_14) (by decide) (by decide) ?_
    show own_At p e below m s₁ 18 #[.val (.ref a_MANAGEMENT), .val (.ref a_MANAGEMENT)] [(.int (1 : Int32))] t
    exact k
  obtain ⟨fs, hr, hrun, hended, hW, hsame⟩ := X0.leave (v := some (.int (1 : Int32))) (fun h => by rw [Bd.returns] at h; cases h)
  refine hNG ⟨_, _, k1 _ ?_, hrun, hended, _, _, rfl, ?_, ⟨_, rfl⟩, hW, hsame.mono (by decide) (by decide)⟩
  · exact retN X0 hx (t := .boolean) Bd.returns (by simp) (hb hby d_prog_14_method_8_code_18) hr
  · show Q_f2 Z a_MANAGEMENT a_GIVE a_OWNERSHIP a_ADMIN h0 n0 _ s₁.heap _
    rw [e0]
    exact ⟨rfl, N0, rfl⟩
theorem pd__Lcom_example_scoped_authority_scopedauthority_Authority__Z : parseMethodDescriptor "(Lcom/example/scoped_authority/scopedauthority/Authority;)Z" = some ⟨[(.object "com/example/scoped_authority/scopedauthority/Authority")], some .boolean⟩ := by decide +kernel
theorem ef_f3 (m : MethodId) (x0 : Int32)  : entryFrame m #[(.int x0)] 1 = mkF m 0 #[.val (.int x0)] [] := by first | (simp [entryFrame, mkF, argsToLocals, Value.category]; done) | rfl
theorem d_method_2_code_8 : decode method_2_code 8 = .ok (.iload_n 0, 1) := by decide +kernel
theorem d_method_2_code_9 : decode method_2_code 9 = .ok (.iconst 1, 1) := by decide +kernel
theorem d_method_2_code_10 : decode method_2_code 10 = .ok (.if_icmp .ne 7, 3) := by decide +kernel
theorem d_method_2_code_13 : decode method_2_code 13 = .ok (.getstatic 13, 3) := by decide +kernel
theorem d_method_2_code_16 : decode method_2_code 16 = .ok (.areturn, 1) := by decide +kernel
def Q_f3 (Z : State) (a_MANAGEMENT : Addr) (a_GIVE : Addr) (a_OWNERSHIP : Addr) (a_ADMIN : Addr) (h0 : Heap) (n0 : Nat) (v : Option Value) (h : Heap) (L : List Loc) : Prop := v = some (.ref a_OWNERSHIP) ∧ Fr n0 L ∧ h = h0
set_option maxRecDepth 65536 in
set_option maxHeartbeats 40000000 in
theorem rm_f3 (l : Launch) (Z : State) (a0 : Array Value) (hw : ∀ d ∈ tables_1, d.before a0 Z = true) (ws : List Jvm.Cond) (a_MANAGEMENT : Addr) (a_GIVE : Addr) (a_OWNERSHIP : Addr) (a_ADMIN : Addr) (h0 : Heap) (n0 : Nat) (O0 : Old Z n0 h0) (hE : EV Z a_MANAGEMENT a_GIVE a_OWNERSHIP a_ADMIN) :
    MetFree l own_m0 (head1 (Jvm.Cond.code own_m0 method_2_code 1 (some (.object "com/example/scoped_authority/scopedauthority/Authority")) :: ws) ({ frames := 0, cells := 0, slots := 0, locals := 0 } : Room)) (fun a U => a = #[(.int (1 : Int32))] ∧ Z.Warmed39 U.vm ∧ U.heap = h0) (fun _ _ _ _ _ => True) (fun _ U o U' => ∃ v L, o = .returned v ∧ Q_f3 Z a_MANAGEMENT a_GIVE a_OWNERSHIP a_ADMIN h0 n0 v U'.heap L ∧ FrameEnd U o U' L ({ frames := 0, cells := 0, slots := 0, locals := 0 } : Room).cells ({ frames := 0, cells := 0, slots := 0, locals := 0 } : Room).slots) := by
  refine MetFree.of_bodySF (plainFor_of_name pn_com_example_scoped_authority_scopedauthority_AuthorityIncludesPinLaw) hisR ?_
  intro p e s m args below meth c s₁ Bd hml0 hP hK
  obtain ⟨rfl, hZ, hh⟩ := hP
  have hx := Bd.exec
  have hby := Bd.bytes
  have hml : c.maxLocals = 1 := hml0
  have hown : s.vm.findClass "com/example/scoped_authority/scopedauthority/AuthorityIncludesPinLaw" = some m.cls := findClass_of_methodNamed Bd.named
  have hnm := (name_of_methodNamed Bd.named Bd.method).1
  have X0 : Stand p l e ({ frames := 0, cells := 0, slots := 0, locals := 0 } : Room) s m #[(.int (1 : Int32))] below meth c s₁ [] 0 0 := Stand.of_body Bd
  have e0 : s₁.heap = h0 := by rw [← hh, Bd.state]; rfl
  have N0 := Fr.nil n0
  refine Classical.byContradiction fun hNG => ?_
  have K0 := Keep.refl h0 []
  have k0 : ∀ t, own_At p e below m s₁ 0 #[.val (.int (1 : Int32))] [] t → own_En p e below m s₁ #[(.int (1 : Int32))] 1 t := fun t k => castTop (ef_f3 m ((1 : Int32)) ) k
  obtain ⟨S_MANAGEMENT, E_MANAGEMENT, S_GIVE, E_GIVE, F_GIVE_ordinal, F_MANAGEMENT_ordinal, S_OWNERSHIP, E_OWNERSHIP, F_GIVE_under, F_OWNERSHIP_ordinal, S_ADMIN, E_ADMIN, F_ADMIN_ordinal, F_OWNERSHIP_under, F_MANAGEMENT_under, F_ADMIN_under⟩ := (id hE : EV Z a_MANAGEMENT a_GIVE a_OWNERSHIP a_ADMIN)
  obtain ⟨T1, X1, e1, st1⟩ := getS2 X0 hx hZ hown (host := "") (Or.inl (own_w hw 19 rfl)) Via.refl e0 (S_OWNERSHIP.ext O0.2) (g := (mkF m 13 #[.val (.int (1 : Int32))] [])) rfl (hb hby d_method_2_code_13)
  have k2 : ∀ t, own_At p e below m T1 16 #[.val (.int (1 : Int32))] [(.ref a_OWNERSHIP)] t → own_En p e below m s₁ #[(.int (1 : Int32))] 1 t := by
    intro t k
    refine k0 t ?_
    refine XS.iloadN X0.here hx rfl (hb hby d_method_2_code_0) rfl ?_
    show own_At p e below m s₁ 1 #[.val (.int (1 : Int32))] [(.int (1 : Int32))] t
    refine XS.ifYes X0.here hx rfl (pc0 := 1) (pc' := 8) rfl (hb hby d_method_2_code_1) rfl ((if0 _ _).trans (feq (by decide : ¬ ((1 : Int32) = (0 : Int32)))).2) (by decide) (by decide) ?_
    show own_At p e below m s₁ 8 #[.val (.int (1 : Int32))] [] t
    refine XS.iloadN X0.here hx rfl (hb hby d_method_2_code_8) rfl ?_
    show own_At p e below m s₁ 9 #[.val (.int (1 : Int32))] [(.int (1 : Int32))] t
    refine XS.iconst X0.here hx rfl (hb hby d_method_2_code_9) ?_
    show own_At p e below m s₁ 10 #[.val (.int (1 : Int32))] [(.int (1 : Int32)), (.int (1 : Int32))] t
    refine XS.icmpNo X0.here hx rfl (hb hby d_method_2_code_10) rfl (teq (by decide : (1 : Int32) = (1 : Int32))).2 ?_
    show own_At p e below m s₁ 13 #[.val (.int (1 : Int32))] [] t
    refine st1 _ ?_
    show own_At p e below m T1 16 #[.val (.int (1 : Int32))] [(.ref a_OWNERSHIP)] t
    exact k
  obtain ⟨fs, hr, hrun, hended, hW, hsame⟩ := X1.leave (v := some (.ref a_OWNERSHIP)) (fun h => by rw [Bd.returns] at h; cases h)
  refine hNG ⟨_, _, k2 _ ?_, hrun, hended, _, _, rfl, ?_, ⟨_, rfl⟩, hW, hsame.mono (by decide) (by decide)⟩
  · exact retOut X1 hx (t := (.object "com/example/scoped_authority/scopedauthority/Authority")) Bd.returns rfl (Or.inr (Or.inr (Or.inr (Or.inr ⟨rfl, rfl, rfl⟩)))) (hb hby d_method_2_code_16) hr
  · show Q_f3 Z a_MANAGEMENT a_GIVE a_OWNERSHIP a_ADMIN h0 n0 _ T1.heap _
    rw [e1]
    exact ⟨rfl, N0, rfl⟩
theorem ef_f4 (m : MethodId) (x0 : Addr) (x1 : Addr)  : entryFrame m #[(.ref x0), (.ref x1)] 2 = mkF m 0 #[.val (.ref x0), .val (.ref x1)] [] := by first | (simp [entryFrame, mkF, argsToLocals, Value.category]; done) | rfl
theorem d_prog_14_method_8_code_5 : decode prog_14_method_8_code 5 = .ok (.aload_n 1, 1) := by decide +kernel
theorem d_prog_14_method_8_code_6 : decode prog_14_method_8_code 6 = .ok (.getfield 42, 3) := by decide +kernel
theorem d_prog_14_method_8_code_9 : decode prog_14_method_8_code 9 = .ok (.aload_n 0, 1) := by decide +kernel
theorem d_prog_14_method_8_code_10 : decode prog_14_method_8_code 10 = .ok (.if_acmp .ne 7, 3) := by decide +kernel
theorem d_prog_14_method_8_code_17 : decode prog_14_method_8_code 17 = .ok (.iconst 0, 1) := by decide +kernel
def Q_f4 (Z : State) (a_MANAGEMENT : Addr) (a_GIVE : Addr) (a_OWNERSHIP : Addr) (a_ADMIN : Addr) (h0 : Heap) (n0 : Nat) (v : Option Value) (h : Heap) (L : List Loc) : Prop := v = some (.int (0 : Int32)) ∧ Fr n0 L ∧ h = h0
set_option maxRecDepth 65536 in
set_option maxHeartbeats 40000000 in
theorem rm_f4 (l : Launch) (Z : State) (a0 : Array Value) (hw : ∀ d ∈ tables_1, d.before a0 Z = true) (ws : List Jvm.Cond) (a_MANAGEMENT : Addr) (a_GIVE : Addr) (a_OWNERSHIP : Addr) (a_ADMIN : Addr) (h0 : Heap) (n0 : Nat) (O0 : Old Z n0 h0) (hE : EV Z a_MANAGEMENT a_GIVE a_OWNERSHIP a_ADMIN) :
    MetFree l own_m1 (head1 (Jvm.Cond.code own_m1 prog_14_method_8_code 2 (some .boolean) :: ws) ({ frames := 0, cells := 0, slots := 0, locals := 0 } : Room)) (fun a U => a = #[(.ref a_MANAGEMENT), (.ref a_OWNERSHIP)] ∧ Z.Warmed39 U.vm ∧ U.heap = h0) (fun _ _ _ _ _ => True) (fun _ U o U' => ∃ v L, o = .returned v ∧ Q_f4 Z a_MANAGEMENT a_GIVE a_OWNERSHIP a_ADMIN h0 n0 v U'.heap L ∧ FrameEnd U o U' L ({ frames := 0, cells := 0, slots := 0, locals := 0 } : Room).cells ({ frames := 0, cells := 0, slots := 0, locals := 0 } : Room).slots) := by
  refine MetFree.of_bodySF (plainFor_of_name pn_com_example_scoped_authority_scopedauthority_Authority) hisR ?_
  intro p e s m args below meth c s₁ Bd hml0 hP hK
  obtain ⟨rfl, hZ, hh⟩ := hP
  have hx := Bd.exec
  have hby := Bd.bytes
  have hml : c.maxLocals = 2 := hml0
  have hown : s.vm.findClass "com/example/scoped_authority/scopedauthority/Authority" = some m.cls := findClass_of_methodNamed Bd.named
  have hnm := (name_of_methodNamed Bd.named Bd.method).1
  have X0 : Stand p l e ({ frames := 0, cells := 0, slots := 0, locals := 0 } : Room) s m #[(.ref a_MANAGEMENT), (.ref a_OWNERSHIP)] below meth c s₁ [] 0 0 := Stand.of_body Bd
  have e0 : s₁.heap = h0 := by rw [← hh, Bd.state]; rfl
  have N0 := Fr.nil n0
  refine Classical.byContradiction fun hNG => ?_
  have K0 := Keep.refl h0 []
  have k0 : ∀ t, own_At p e below m s₁ 0 #[.val (.ref a_MANAGEMENT), .val (.ref a_OWNERSHIP)] [] t → own_En p e below m s₁ #[(.ref a_MANAGEMENT), (.ref a_OWNERSHIP)] 2 t := fun t k => castTop (ef_f4 m a_MANAGEMENT a_OWNERSHIP ) k
  obtain ⟨S_MANAGEMENT, E_MANAGEMENT, S_GIVE, E_GIVE, F_GIVE_ordinal, F_MANAGEMENT_ordinal, S_OWNERSHIP, E_OWNERSHIP, F_GIVE_under, F_OWNERSHIP_ordinal, S_ADMIN, E_ADMIN, F_ADMIN_ordinal, F_OWNERSHIP_under, F_MANAGEMENT_under, F_ADMIN_under⟩ := (id hE : EV Z a_MANAGEMENT a_GIVE a_OWNERSHIP a_ADMIN)
  obtain ⟨T1, X1, e1, st1⟩ := getF X0 hx hZ hown (host := "") (Or.inl (own_w hw 14 rfl)) Via.refl e0 (F_OWNERSHIP_under.ext O0.2) (g := (mkF m 6 #[.val (.ref a_MANAGEMENT), .val (.ref a_OWNERSHIP)] [(.ref a_OWNERSHIP)])) rfl rfl (hb hby d_prog_14_method_8_code_6)
  have k2 : ∀ t, own_At p e below m T1 18 #[.val (.ref a_MANAGEMENT), .val (.ref a_OWNERSHIP)] [(.int (0 : Int32))] t → own_En p e below m s₁ #[(.ref a_MANAGEMENT), (.ref a_OWNERSHIP)] 2 t := by
    intro t k
    refine k0 t ?_
    refine XS.aloadN X0.here hx rfl (hb hby d_prog_14_method_8_code_0) rfl rfl ?_
    show own_At p e below m s₁ 1 #[.val (.ref a_MANAGEMENT), .val (.ref a_OWNERSHIP)] [(.ref a_OWNERSHIP)] t
    refine XS.aloadN X0.here hx rfl (hb hby d_prog_14_method_8_code_1) rfl rfl ?_
    show own_At p e below m s₁ 2 #[.val (.ref a_MANAGEMENT), .val (.ref a_OWNERSHIP)] [(.ref a_MANAGEMENT), (.ref a_OWNERSHIP)] t
    refine Jvm.RoadKit.acmp (g := (mkF m 2 #[.val (.ref a_MANAGEMENT), .val (.ref a_OWNERSHIP)] [(.ref a_MANAGEMENT), (.ref a_OWNERSHIP)])) X0 hx rfl rfl rfl (pc0 := 2) (pc' := 5) (same := false) rfl (hb hby d_prog_14_method_8_code_2) rfl (decide_eq_false fun q => (F_OWNERSHIP_ordinal.ne F_MANAGEMENT_ordinal (fun q => absurd (Value.int.inj q) (by decide))) (Value.ref.inj q)) (by decide) (by decide) ?_
    show own_At p e below m s₁ 5 #[.val (.ref a_MANAGEMENT), .val (.ref a_OWNERSHIP)] [] t
    refine XS.aloadN X0.here hx rfl (hb hby d_prog_14_method_8_code_5) rfl rfl ?_
    show own_At p e below m s₁ 6 #[.val (.ref a_MANAGEMENT), .val (.ref a_OWNERSHIP)] [(.ref a_OWNERSHIP)] t
    refine st1 _ ?_
    show own_At p e below m T1 9 #[.val (.ref a_MANAGEMENT), .val (.ref a_OWNERSHIP)] [.null] t
    refine XS.aloadN X1.here hx rfl (hb hby d_prog_14_method_8_code_9) rfl rfl ?_
    show own_At p e below m T1 10 #[.val (.ref a_MANAGEMENT), .val (.ref a_OWNERSHIP)] [(.ref a_MANAGEMENT), .null] t
    refine Jvm.RoadKit.acmp (g := (mkF m 10 #[.val (.ref a_MANAGEMENT), .val (.ref a_OWNERSHIP)] [(.ref a_MANAGEMENT), .null])) X1 hx rfl rfl rfl (pc0 := 10) (pc' := 17) (same := false) rfl (hb hby d_prog_14_method_8_code_10) rfl (decide_eq_false nofun) (by decide) (by decide) ?_
    show own_At p e below m T1 17 #[.val (.ref a_MANAGEMENT), .val (.ref a_OWNERSHIP)] [] t
    refine XS.iconst X1.here hx rfl (hb hby d_prog_14_method_8_code_17) ?_
    show own_At p e below m T1 18 #[.val (.ref a_MANAGEMENT), .val (.ref a_OWNERSHIP)] [(.int (0 : Int32))] t
    exact k
  obtain ⟨fs, hr, hrun, hended, hW, hsame⟩ := X1.leave (v := some (.int (0 : Int32))) (fun h => by rw [Bd.returns] at h; cases h)
  refine hNG ⟨_, _, k2 _ ?_, hrun, hended, _, _, rfl, ?_, ⟨_, rfl⟩, hW, hsame.mono (by decide) (by decide)⟩
  · exact retN X1 hx (t := .boolean) Bd.returns (by simp) (hb hby d_prog_14_method_8_code_18) hr
  · show Q_f4 Z a_MANAGEMENT a_GIVE a_OWNERSHIP a_ADMIN h0 n0 _ T1.heap _
    rw [e1]
    exact ⟨rfl, N0, rfl⟩
theorem ef_f5 (m : MethodId) (x0 : Int32)  : entryFrame m #[(.int x0)] 1 = mkF m 0 #[.val (.int x0)] [] := by first | (simp [entryFrame, mkF, argsToLocals, Value.category]; done) | rfl
theorem d_method_2_code_17 : decode method_2_code 17 = .ok (.iload_n 0, 1) := by decide +kernel
theorem d_method_2_code_18 : decode method_2_code 18 = .ok (.iconst 2, 1) := by decide +kernel
theorem d_method_2_code_19 : decode method_2_code 19 = .ok (.if_icmp .ne 7, 3) := by decide +kernel
theorem d_method_2_code_22 : decode method_2_code 22 = .ok (.getstatic 16, 3) := by decide +kernel
theorem d_method_2_code_25 : decode method_2_code 25 = .ok (.areturn, 1) := by decide +kernel
def Q_f5 (Z : State) (a_MANAGEMENT : Addr) (a_GIVE : Addr) (a_OWNERSHIP : Addr) (a_ADMIN : Addr) (h0 : Heap) (n0 : Nat) (v : Option Value) (h : Heap) (L : List Loc) : Prop := v = some (.ref a_ADMIN) ∧ Fr n0 L ∧ h = h0
set_option maxRecDepth 65536 in
set_option maxHeartbeats 40000000 in
theorem rm_f5 (l : Launch) (Z : State) (a0 : Array Value) (hw : ∀ d ∈ tables_1, d.before a0 Z = true) (ws : List Jvm.Cond) (a_MANAGEMENT : Addr) (a_GIVE : Addr) (a_OWNERSHIP : Addr) (a_ADMIN : Addr) (h0 : Heap) (n0 : Nat) (O0 : Old Z n0 h0) (hE : EV Z a_MANAGEMENT a_GIVE a_OWNERSHIP a_ADMIN) :
    MetFree l own_m0 (head1 (Jvm.Cond.code own_m0 method_2_code 1 (some (.object "com/example/scoped_authority/scopedauthority/Authority")) :: ws) ({ frames := 0, cells := 0, slots := 0, locals := 0 } : Room)) (fun a U => a = #[(.int (2 : Int32))] ∧ Z.Warmed39 U.vm ∧ U.heap = h0) (fun _ _ _ _ _ => True) (fun _ U o U' => ∃ v L, o = .returned v ∧ Q_f5 Z a_MANAGEMENT a_GIVE a_OWNERSHIP a_ADMIN h0 n0 v U'.heap L ∧ FrameEnd U o U' L ({ frames := 0, cells := 0, slots := 0, locals := 0 } : Room).cells ({ frames := 0, cells := 0, slots := 0, locals := 0 } : Room).slots) := by
  refine MetFree.of_bodySF (plainFor_of_name pn_com_example_scoped_authority_scopedauthority_AuthorityIncludesPinLaw) hisR ?_
  intro p e s m args below meth c s₁ Bd hml0 hP hK
  obtain ⟨rfl, hZ, hh⟩ := hP
  have hx := Bd.exec
  have hby := Bd.bytes
  have hml : c.maxLocals = 1 := hml0
  have hown : s.vm.findClass "com/example/scoped_authority/scopedauthority/AuthorityIncludesPinLaw" = some m.cls := findClass_of_methodNamed Bd.named
  have hnm := (name_of_methodNamed Bd.named Bd.method).1
  have X0 : Stand p l e ({ frames := 0, cells := 0, slots := 0, locals := 0 } : Room) s m #[(.int (2 : Int32))] below meth c s₁ [] 0 0 := Stand.of_body Bd
  have e0 : s₁.heap = h0 := by rw [← hh, Bd.state]; rfl
  have N0 := Fr.nil n0
  refine Classical.byContradiction fun hNG => ?_
  have K0 := Keep.refl h0 []
  have k0 : ∀ t, own_At p e below m s₁ 0 #[.val (.int (2 : Int32))] [] t → own_En p e below m s₁ #[(.int (2 : Int32))] 1 t := fun t k => castTop (ef_f5 m ((2 : Int32)) ) k
  obtain ⟨S_MANAGEMENT, E_MANAGEMENT, S_GIVE, E_GIVE, F_GIVE_ordinal, F_MANAGEMENT_ordinal, S_OWNERSHIP, E_OWNERSHIP, F_GIVE_under, F_OWNERSHIP_ordinal, S_ADMIN, E_ADMIN, F_ADMIN_ordinal, F_OWNERSHIP_under, F_MANAGEMENT_under, F_ADMIN_under⟩ := (id hE : EV Z a_MANAGEMENT a_GIVE a_OWNERSHIP a_ADMIN)
  obtain ⟨T1, X1, e1, st1⟩ := getS2 X0 hx hZ hown (host := "") (Or.inl (own_w hw 17 rfl)) Via.refl e0 (S_ADMIN.ext O0.2) (g := (mkF m 22 #[.val (.int (2 : Int32))] [])) rfl (hb hby d_method_2_code_22)
  have k2 : ∀ t, own_At p e below m T1 25 #[.val (.int (2 : Int32))] [(.ref a_ADMIN)] t → own_En p e below m s₁ #[(.int (2 : Int32))] 1 t := by
    intro t k
    refine k0 t ?_
    refine XS.iloadN X0.here hx rfl (hb hby d_method_2_code_0) rfl ?_
    show own_At p e below m s₁ 1 #[.val (.int (2 : Int32))] [(.int (2 : Int32))] t
    refine XS.ifYes X0.here hx rfl (pc0 := 1) (pc' := 8) rfl (hb hby d_method_2_code_1) rfl ((if0 _ _).trans (feq (by decide : ¬ ((2 : Int32) = (0 : Int32)))).2) (by decide) (by decide) ?_
    show own_At p e below m s₁ 8 #[.val (.int (2 : Int32))] [] t
    refine XS.iloadN X0.here hx rfl (hb hby d_method_2_code_8) rfl ?_
    show own_At p e below m s₁ 9 #[.val (.int (2 : Int32))] [(.int (2 : Int32))] t
    refine XS.iconst X0.here hx rfl (hb hby d_method_2_code_9) ?_
    show own_At p e below m s₁ 10 #[.val (.int (2 : Int32))] [(.int (1 : Int32)), (.int (2 : Int32))] t
    refine XS.icmpYes X0.here hx rfl (pc0 := 10) (pc' := 17) rfl (hb hby d_method_2_code_10) rfl (feq (by decide : ¬ ((2 : Int32) = (1 : Int32)))).2 (by decide) (by decide) ?_
    show own_At p e below m s₁ 17 #[.val (.int (2 : Int32))] [] t
    refine XS.iloadN X0.here hx rfl (hb hby d_method_2_code_17) rfl ?_
    show own_At p e below m s₁ 18 #[.val (.int (2 : Int32))] [(.int (2 : Int32))] t
    refine XS.iconst X0.here hx rfl (hb hby d_method_2_code_18) ?_
    show own_At p e below m s₁ 19 #[.val (.int (2 : Int32))] [(.int (2 : Int32)), (.int (2 : Int32))] t
    refine XS.icmpNo X0.here hx rfl (hb hby d_method_2_code_19) rfl (teq (by decide : (2 : Int32) = (2 : Int32))).2 ?_
    show own_At p e below m s₁ 22 #[.val (.int (2 : Int32))] [] t
    refine st1 _ ?_
    show own_At p e below m T1 25 #[.val (.int (2 : Int32))] [(.ref a_ADMIN)] t
    exact k
  obtain ⟨fs, hr, hrun, hended, hW, hsame⟩ := X1.leave (v := some (.ref a_ADMIN)) (fun h => by rw [Bd.returns] at h; cases h)
  refine hNG ⟨_, _, k2 _ ?_, hrun, hended, _, _, rfl, ?_, ⟨_, rfl⟩, hW, hsame.mono (by decide) (by decide)⟩
  · exact retOut X1 hx (t := (.object "com/example/scoped_authority/scopedauthority/Authority")) Bd.returns rfl (Or.inr (Or.inr (Or.inr (Or.inr ⟨rfl, rfl, rfl⟩)))) (hb hby d_method_2_code_25) hr
  · show Q_f5 Z a_MANAGEMENT a_GIVE a_OWNERSHIP a_ADMIN h0 n0 _ T1.heap _
    rw [e1]
    exact ⟨rfl, N0, rfl⟩
theorem ef_f6 (m : MethodId) (x0 : Addr) (x1 : Addr)  : entryFrame m #[(.ref x0), (.ref x1)] 2 = mkF m 0 #[.val (.ref x0), .val (.ref x1)] [] := by first | (simp [entryFrame, mkF, argsToLocals, Value.category]; done) | rfl
def Q_f6 (Z : State) (a_MANAGEMENT : Addr) (a_GIVE : Addr) (a_OWNERSHIP : Addr) (a_ADMIN : Addr) (h0 : Heap) (n0 : Nat) (v : Option Value) (h : Heap) (L : List Loc) : Prop := v = some (.int (1 : Int32)) ∧ Fr n0 L ∧ h = h0
set_option maxRecDepth 65536 in
set_option maxHeartbeats 40000000 in
theorem rm_f6 (l : Launch) (Z : State) (a0 : Array Value) (hw : ∀ d ∈ tables_1, d.before a0 Z = true) (ws : List Jvm.Cond) (a_MANAGEMENT : Addr) (a_GIVE : Addr) (a_OWNERSHIP : Addr) (a_ADMIN : Addr) (h0 : Heap) (n0 : Nat) (O0 : Old Z n0 h0) (hE : EV Z a_MANAGEMENT a_GIVE a_OWNERSHIP a_ADMIN) :
    MetFree l own_m1 (head1 (Jvm.Cond.code own_m1 prog_14_method_8_code 2 (some .boolean) :: ws) ({ frames := 0, cells := 0, slots := 0, locals := 0 } : Room)) (fun a U => a = #[(.ref a_MANAGEMENT), (.ref a_ADMIN)] ∧ Z.Warmed39 U.vm ∧ U.heap = h0) (fun _ _ _ _ _ => True) (fun _ U o U' => ∃ v L, o = .returned v ∧ Q_f6 Z a_MANAGEMENT a_GIVE a_OWNERSHIP a_ADMIN h0 n0 v U'.heap L ∧ FrameEnd U o U' L ({ frames := 0, cells := 0, slots := 0, locals := 0 } : Room).cells ({ frames := 0, cells := 0, slots := 0, locals := 0 } : Room).slots) := by
  refine MetFree.of_bodySF (plainFor_of_name pn_com_example_scoped_authority_scopedauthority_Authority) hisR ?_
  intro p e s m args below meth c s₁ Bd hml0 hP hK
  obtain ⟨rfl, hZ, hh⟩ := hP
  have hx := Bd.exec
  have hby := Bd.bytes
  have hml : c.maxLocals = 2 := hml0
  have hown : s.vm.findClass "com/example/scoped_authority/scopedauthority/Authority" = some m.cls := findClass_of_methodNamed Bd.named
  have hnm := (name_of_methodNamed Bd.named Bd.method).1
  have X0 : Stand p l e ({ frames := 0, cells := 0, slots := 0, locals := 0 } : Room) s m #[(.ref a_MANAGEMENT), (.ref a_ADMIN)] below meth c s₁ [] 0 0 := Stand.of_body Bd
  have e0 : s₁.heap = h0 := by rw [← hh, Bd.state]; rfl
  have N0 := Fr.nil n0
  refine Classical.byContradiction fun hNG => ?_
  have K0 := Keep.refl h0 []
  have k0 : ∀ t, own_At p e below m s₁ 0 #[.val (.ref a_MANAGEMENT), .val (.ref a_ADMIN)] [] t → own_En p e below m s₁ #[(.ref a_MANAGEMENT), (.ref a_ADMIN)] 2 t := fun t k => castTop (ef_f6 m a_MANAGEMENT a_ADMIN ) k
  obtain ⟨S_MANAGEMENT, E_MANAGEMENT, S_GIVE, E_GIVE, F_GIVE_ordinal, F_MANAGEMENT_ordinal, S_OWNERSHIP, E_OWNERSHIP, F_GIVE_under, F_OWNERSHIP_ordinal, S_ADMIN, E_ADMIN, F_ADMIN_ordinal, F_OWNERSHIP_under, F_MANAGEMENT_under, F_ADMIN_under⟩ := (id hE : EV Z a_MANAGEMENT a_GIVE a_OWNERSHIP a_ADMIN)
  obtain ⟨T1, X1, e1, st1⟩ := getF X0 hx hZ hown (host := "") (Or.inl (own_w hw 14 rfl)) Via.refl e0 (F_ADMIN_under.ext O0.2) (g := (mkF m 6 #[.val (.ref a_MANAGEMENT), .val (.ref a_ADMIN)] [(.ref a_ADMIN)])) rfl rfl (hb hby d_prog_14_method_8_code_6)
  have k2 : ∀ t, own_At p e below m T1 18 #[.val (.ref a_MANAGEMENT), .val (.ref a_ADMIN)] [(.int (1 : Int32))] t → own_En p e below m s₁ #[(.ref a_MANAGEMENT), (.ref a_ADMIN)] 2 t := by
    intro t k
    refine k0 t ?_
    refine XS.aloadN X0.here hx rfl (hb hby d_prog_14_method_8_code_0) rfl rfl ?_
    show own_At p e below m s₁ 1 #[.val (.ref a_MANAGEMENT), .val (.ref a_ADMIN)] [(.ref a_ADMIN)] t
    refine XS.aloadN X0.here hx rfl (hb hby d_prog_14_method_8_code_1) rfl rfl ?_
    show own_At p e below m s₁ 2 #[.val (.ref a_MANAGEMENT), .val (.ref a_ADMIN)] [(.ref a_MANAGEMENT), (.ref a_ADMIN)] t
    refine Jvm.RoadKit.acmp (g := (mkF m 2 #[.val (.ref a_MANAGEMENT), .val (.ref a_ADMIN)] [(.ref a_MANAGEMENT), (.ref a_ADMIN)])) X0 hx rfl rfl rfl (pc0 := 2) (pc' := 5) (same := false) rfl (hb hby d_prog_14_method_8_code_2) rfl (decide_eq_false fun q => (F_ADMIN_ordinal.ne F_MANAGEMENT_ordinal (fun q => absurd (Value.int.inj q) (by decide))) (Value.ref.inj q)) (by decide) (by decide) ?_
    show own_At p e below m s₁ 5 #[.val (.ref a_MANAGEMENT), .val (.ref a_ADMIN)] [] t
    refine XS.aloadN X0.here hx rfl (hb hby d_prog_14_method_8_code_5) rfl rfl ?_
    show own_At p e below m s₁ 6 #[.val (.ref a_MANAGEMENT), .val (.ref a_ADMIN)] [(.ref a_ADMIN)] t
    refine st1 _ ?_
    show own_At p e below m T1 9 #[.val (.ref a_MANAGEMENT), .val (.ref a_ADMIN)] [(.ref a_MANAGEMENT)] t
    refine XS.aloadN X1.here hx rfl (hb hby d_prog_14_method_8_code_9) rfl rfl ?_
    show own_At p e below m T1 10 #[.val (.ref a_MANAGEMENT), .val (.ref a_ADMIN)] [(.ref a_MANAGEMENT), (.ref a_MANAGEMENT)] t
    refine Jvm.RoadKit.acmp (g := (mkF m 10 #[.val (.ref a_MANAGEMENT), .val (.ref a_ADMIN)] [(.ref a_MANAGEMENT), (.ref a_MANAGEMENT)])) X1 hx rfl rfl rfl (pc0 := 10) (pc' := 13) (same := true) rfl (hb hby d_prog_14_method_8_code_10) rfl (decide_eq_true rfl) (by decide) (by decide) ?_
    show own_At p e below m T1 13 #[.val (.ref a_MANAGEMENT), .val (.ref a_ADMIN)] [] t
    refine XS.iconst X1.here hx rfl (hb hby d_prog_14_method_8_code_13) ?_
    show own_At p e below m T1 14 #[.val (.ref a_MANAGEMENT), .val (.ref a_ADMIN)] [(.int (1 : Int32))] t
    refine XS.goto X1.here hx rfl (pc0 := 14) (pc' := 18) rfl (hb hby d_prog_14_method_8_code_14) (by decide) (by decide) ?_
    show own_At p e below m T1 18 #[.val (.ref a_MANAGEMENT), .val (.ref a_ADMIN)] [(.int (1 : Int32))] t
    exact k
  obtain ⟨fs, hr, hrun, hended, hW, hsame⟩ := X1.leave (v := some (.int (1 : Int32))) (fun h => by rw [Bd.returns] at h; cases h)
  refine hNG ⟨_, _, k2 _ ?_, hrun, hended, _, _, rfl, ?_, ⟨_, rfl⟩, hW, hsame.mono (by decide) (by decide)⟩
  · exact retN X1 hx (t := .boolean) Bd.returns (by simp) (hb hby d_prog_14_method_8_code_18) hr
  · show Q_f6 Z a_MANAGEMENT a_GIVE a_OWNERSHIP a_ADMIN h0 n0 _ T1.heap _
    rw [e1]
    exact ⟨rfl, N0, rfl⟩
theorem ef_f7 (m : MethodId) (x0 : Int32)  : entryFrame m #[(.int x0)] 1 = mkF m 0 #[.val (.int x0)] [] := by first | (simp [entryFrame, mkF, argsToLocals, Value.category]; done) | rfl
theorem d_method_2_code_26 : decode method_2_code 26 = .ok (.getstatic 19, 3) := by decide +kernel
theorem d_method_2_code_29 : decode method_2_code 29 = .ok (.areturn, 1) := by decide +kernel
def Q_f7 (Z : State) (a_MANAGEMENT : Addr) (a_GIVE : Addr) (a_OWNERSHIP : Addr) (a_ADMIN : Addr) (h0 : Heap) (n0 : Nat) (v : Option Value) (h : Heap) (L : List Loc) : Prop := v = some (.ref a_GIVE) ∧ Fr n0 L ∧ h = h0
set_option maxRecDepth 65536 in
set_option maxHeartbeats 40000000 in
theorem rm_f7 (l : Launch) (Z : State) (a0 : Array Value) (hw : ∀ d ∈ tables_1, d.before a0 Z = true) (ws : List Jvm.Cond) (a_MANAGEMENT : Addr) (a_GIVE : Addr) (a_OWNERSHIP : Addr) (a_ADMIN : Addr) (h0 : Heap) (n0 : Nat) (O0 : Old Z n0 h0) (hE : EV Z a_MANAGEMENT a_GIVE a_OWNERSHIP a_ADMIN) :
    MetFree l own_m0 (head1 (Jvm.Cond.code own_m0 method_2_code 1 (some (.object "com/example/scoped_authority/scopedauthority/Authority")) :: ws) ({ frames := 0, cells := 0, slots := 0, locals := 0 } : Room)) (fun a U => a = #[(.int (3 : Int32))] ∧ Z.Warmed39 U.vm ∧ U.heap = h0) (fun _ _ _ _ _ => True) (fun _ U o U' => ∃ v L, o = .returned v ∧ Q_f7 Z a_MANAGEMENT a_GIVE a_OWNERSHIP a_ADMIN h0 n0 v U'.heap L ∧ FrameEnd U o U' L ({ frames := 0, cells := 0, slots := 0, locals := 0 } : Room).cells ({ frames := 0, cells := 0, slots := 0, locals := 0 } : Room).slots) := by
  refine MetFree.of_bodySF (plainFor_of_name pn_com_example_scoped_authority_scopedauthority_AuthorityIncludesPinLaw) hisR ?_
  intro p e s m args below meth c s₁ Bd hml0 hP hK
  obtain ⟨rfl, hZ, hh⟩ := hP
  have hx := Bd.exec
  have hby := Bd.bytes
  have hml : c.maxLocals = 1 := hml0
  have hown : s.vm.findClass "com/example/scoped_authority/scopedauthority/AuthorityIncludesPinLaw" = some m.cls := findClass_of_methodNamed Bd.named
  have hnm := (name_of_methodNamed Bd.named Bd.method).1
  have X0 : Stand p l e ({ frames := 0, cells := 0, slots := 0, locals := 0 } : Room) s m #[(.int (3 : Int32))] below meth c s₁ [] 0 0 := Stand.of_body Bd
  have e0 : s₁.heap = h0 := by rw [← hh, Bd.state]; rfl
  have N0 := Fr.nil n0
  refine Classical.byContradiction fun hNG => ?_
  have K0 := Keep.refl h0 []
  have k0 : ∀ t, own_At p e below m s₁ 0 #[.val (.int (3 : Int32))] [] t → own_En p e below m s₁ #[(.int (3 : Int32))] 1 t := fun t k => castTop (ef_f7 m ((3 : Int32)) ) k
  obtain ⟨S_MANAGEMENT, E_MANAGEMENT, S_GIVE, E_GIVE, F_GIVE_ordinal, F_MANAGEMENT_ordinal, S_OWNERSHIP, E_OWNERSHIP, F_GIVE_under, F_OWNERSHIP_ordinal, S_ADMIN, E_ADMIN, F_ADMIN_ordinal, F_OWNERSHIP_under, F_MANAGEMENT_under, F_ADMIN_under⟩ := (id hE : EV Z a_MANAGEMENT a_GIVE a_OWNERSHIP a_ADMIN)
  obtain ⟨T1, X1, e1, st1⟩ := getS2 X0 hx hZ hown (host := "") (Or.inl (own_w hw 7 rfl)) Via.refl e0 (S_GIVE.ext O0.2) (g := (mkF m 26 #[.val (.int (3 : Int32))] [])) rfl (hb hby d_method_2_code_26)
  have k2 : ∀ t, own_At p e below m T1 29 #[.val (.int (3 : Int32))] [(.ref a_GIVE)] t → own_En p e below m s₁ #[(.int (3 : Int32))] 1 t := by
    intro t k
    refine k0 t ?_
    refine XS.iloadN X0.here hx rfl (hb hby d_method_2_code_0) rfl ?_
    show own_At p e below m s₁ 1 #[.val (.int (3 : Int32))] [(.int (3 : Int32))] t
    refine XS.ifYes X0.here hx rfl (pc0 := 1) (pc' := 8) rfl (hb hby d_method_2_code_1) rfl ((if0 _ _).trans (feq (by decide : ¬ ((3 : Int32) = (0 : Int32)))).2) (by decide) (by decide) ?_
    show own_At p e below m s₁ 8 #[.val (.int (3 : Int32))] [] t
    refine XS.iloadN X0.here hx rfl (hb hby d_method_2_code_8) rfl ?_
    show own_At p e below m s₁ 9 #[.val (.int (3 : Int32))] [(.int (3 : Int32))] t
    refine XS.iconst X0.here hx rfl (hb hby d_method_2_code_9) ?_
    show own_At p e below m s₁ 10 #[.val (.int (3 : Int32))] [(.int (1 : Int32)), (.int (3 : Int32))] t
    refine XS.icmpYes X0.here hx rfl (pc0 := 10) (pc' := 17) rfl (hb hby d_method_2_code_10) rfl (feq (by decide : ¬ ((3 : Int32) = (1 : Int32)))).2 (by decide) (by decide) ?_
    show own_At p e below m s₁ 17 #[.val (.int (3 : Int32))] [] t
    refine XS.iloadN X0.here hx rfl (hb hby d_method_2_code_17) rfl ?_
    show own_At p e below m s₁ 18 #[.val (.int (3 : Int32))] [(.int (3 : Int32))] t
    refine XS.iconst X0.here hx rfl (hb hby d_method_2_code_18) ?_
    show own_At p e below m s₁ 19 #[.val (.int (3 : Int32))] [(.int (2 : Int32)), (.int (3 : Int32))] t
    refine XS.icmpYes X0.here hx rfl (pc0 := 19) (pc' := 26) rfl (hb hby d_method_2_code_19) rfl (feq (by decide : ¬ ((3 : Int32) = (2 : Int32)))).2 (by decide) (by decide) ?_
    show own_At p e below m s₁ 26 #[.val (.int (3 : Int32))] [] t
    refine st1 _ ?_
    show own_At p e below m T1 29 #[.val (.int (3 : Int32))] [(.ref a_GIVE)] t
    exact k
  obtain ⟨fs, hr, hrun, hended, hW, hsame⟩ := X1.leave (v := some (.ref a_GIVE)) (fun h => by rw [Bd.returns] at h; cases h)
  refine hNG ⟨_, _, k2 _ ?_, hrun, hended, _, _, rfl, ?_, ⟨_, rfl⟩, hW, hsame.mono (by decide) (by decide)⟩
  · exact retOut X1 hx (t := (.object "com/example/scoped_authority/scopedauthority/Authority")) Bd.returns rfl (Or.inr (Or.inr (Or.inr (Or.inr ⟨rfl, rfl, rfl⟩)))) (hb hby d_method_2_code_29) hr
  · show Q_f7 Z a_MANAGEMENT a_GIVE a_OWNERSHIP a_ADMIN h0 n0 _ T1.heap _
    rw [e1]
    exact ⟨rfl, N0, rfl⟩
theorem ef_f8 (m : MethodId) (x0 : Addr) (x1 : Addr)  : entryFrame m #[(.ref x0), (.ref x1)] 2 = mkF m 0 #[.val (.ref x0), .val (.ref x1)] [] := by first | (simp [entryFrame, mkF, argsToLocals, Value.category]; done) | rfl
def Q_f8 (Z : State) (a_MANAGEMENT : Addr) (a_GIVE : Addr) (a_OWNERSHIP : Addr) (a_ADMIN : Addr) (h0 : Heap) (n0 : Nat) (v : Option Value) (h : Heap) (L : List Loc) : Prop := v = some (.int (0 : Int32)) ∧ Fr n0 L ∧ h = h0
set_option maxRecDepth 65536 in
set_option maxHeartbeats 40000000 in
theorem rm_f8 (l : Launch) (Z : State) (a0 : Array Value) (hw : ∀ d ∈ tables_1, d.before a0 Z = true) (ws : List Jvm.Cond) (a_MANAGEMENT : Addr) (a_GIVE : Addr) (a_OWNERSHIP : Addr) (a_ADMIN : Addr) (h0 : Heap) (n0 : Nat) (O0 : Old Z n0 h0) (hE : EV Z a_MANAGEMENT a_GIVE a_OWNERSHIP a_ADMIN) :
    MetFree l own_m1 (head1 (Jvm.Cond.code own_m1 prog_14_method_8_code 2 (some .boolean) :: ws) ({ frames := 0, cells := 0, slots := 0, locals := 0 } : Room)) (fun a U => a = #[(.ref a_MANAGEMENT), (.ref a_GIVE)] ∧ Z.Warmed39 U.vm ∧ U.heap = h0) (fun _ _ _ _ _ => True) (fun _ U o U' => ∃ v L, o = .returned v ∧ Q_f8 Z a_MANAGEMENT a_GIVE a_OWNERSHIP a_ADMIN h0 n0 v U'.heap L ∧ FrameEnd U o U' L ({ frames := 0, cells := 0, slots := 0, locals := 0 } : Room).cells ({ frames := 0, cells := 0, slots := 0, locals := 0 } : Room).slots) := by
  refine MetFree.of_bodySF (plainFor_of_name pn_com_example_scoped_authority_scopedauthority_Authority) hisR ?_
  intro p e s m args below meth c s₁ Bd hml0 hP hK
  obtain ⟨rfl, hZ, hh⟩ := hP
  have hx := Bd.exec
  have hby := Bd.bytes
  have hml : c.maxLocals = 2 := hml0
  have hown : s.vm.findClass "com/example/scoped_authority/scopedauthority/Authority" = some m.cls := findClass_of_methodNamed Bd.named
  have hnm := (name_of_methodNamed Bd.named Bd.method).1
  have X0 : Stand p l e ({ frames := 0, cells := 0, slots := 0, locals := 0 } : Room) s m #[(.ref a_MANAGEMENT), (.ref a_GIVE)] below meth c s₁ [] 0 0 := Stand.of_body Bd
  have e0 : s₁.heap = h0 := by rw [← hh, Bd.state]; rfl
  have N0 := Fr.nil n0
  refine Classical.byContradiction fun hNG => ?_
  have K0 := Keep.refl h0 []
  have k0 : ∀ t, own_At p e below m s₁ 0 #[.val (.ref a_MANAGEMENT), .val (.ref a_GIVE)] [] t → own_En p e below m s₁ #[(.ref a_MANAGEMENT), (.ref a_GIVE)] 2 t := fun t k => castTop (ef_f8 m a_MANAGEMENT a_GIVE ) k
  obtain ⟨S_MANAGEMENT, E_MANAGEMENT, S_GIVE, E_GIVE, F_GIVE_ordinal, F_MANAGEMENT_ordinal, S_OWNERSHIP, E_OWNERSHIP, F_GIVE_under, F_OWNERSHIP_ordinal, S_ADMIN, E_ADMIN, F_ADMIN_ordinal, F_OWNERSHIP_under, F_MANAGEMENT_under, F_ADMIN_under⟩ := (id hE : EV Z a_MANAGEMENT a_GIVE a_OWNERSHIP a_ADMIN)
  obtain ⟨T1, X1, e1, st1⟩ := getF X0 hx hZ hown (host := "") (Or.inl (own_w hw 14 rfl)) Via.refl e0 (F_GIVE_under.ext O0.2) (g := (mkF m 6 #[.val (.ref a_MANAGEMENT), .val (.ref a_GIVE)] [(.ref a_GIVE)])) rfl rfl (hb hby d_prog_14_method_8_code_6)
  have k2 : ∀ t, own_At p e below m T1 18 #[.val (.ref a_MANAGEMENT), .val (.ref a_GIVE)] [(.int (0 : Int32))] t → own_En p e below m s₁ #[(.ref a_MANAGEMENT), (.ref a_GIVE)] 2 t := by
    intro t k
    refine k0 t ?_
    refine XS.aloadN X0.here hx rfl (hb hby d_prog_14_method_8_code_0) rfl rfl ?_
    show own_At p e below m s₁ 1 #[.val (.ref a_MANAGEMENT), .val (.ref a_GIVE)] [(.ref a_GIVE)] t
    refine XS.aloadN X0.here hx rfl (hb hby d_prog_14_method_8_code_1) rfl rfl ?_
    show own_At p e below m s₁ 2 #[.val (.ref a_MANAGEMENT), .val (.ref a_GIVE)] [(.ref a_MANAGEMENT), (.ref a_GIVE)] t
    refine Jvm.RoadKit.acmp (g := (mkF m 2 #[.val (.ref a_MANAGEMENT), .val (.ref a_GIVE)] [(.ref a_MANAGEMENT), (.ref a_GIVE)])) X0 hx rfl rfl rfl (pc0 := 2) (pc' := 5) (same := false) rfl (hb hby d_prog_14_method_8_code_2) rfl (decide_eq_false fun q => (F_GIVE_ordinal.ne F_MANAGEMENT_ordinal (fun q => absurd (Value.int.inj q) (by decide))) (Value.ref.inj q)) (by decide) (by decide) ?_
    show own_At p e below m s₁ 5 #[.val (.ref a_MANAGEMENT), .val (.ref a_GIVE)] [] t
    refine XS.aloadN X0.here hx rfl (hb hby d_prog_14_method_8_code_5) rfl rfl ?_
    show own_At p e below m s₁ 6 #[.val (.ref a_MANAGEMENT), .val (.ref a_GIVE)] [(.ref a_GIVE)] t
    refine st1 _ ?_
    show own_At p e below m T1 9 #[.val (.ref a_MANAGEMENT), .val (.ref a_GIVE)] [(.ref a_OWNERSHIP)] t
    refine XS.aloadN X1.here hx rfl (hb hby d_prog_14_method_8_code_9) rfl rfl ?_
    show own_At p e below m T1 10 #[.val (.ref a_MANAGEMENT), .val (.ref a_GIVE)] [(.ref a_MANAGEMENT), (.ref a_OWNERSHIP)] t
    refine Jvm.RoadKit.acmp (g := (mkF m 10 #[.val (.ref a_MANAGEMENT), .val (.ref a_GIVE)] [(.ref a_MANAGEMENT), (.ref a_OWNERSHIP)])) X1 hx rfl rfl rfl (pc0 := 10) (pc' := 17) (same := false) rfl (hb hby d_prog_14_method_8_code_10) rfl (decide_eq_false fun q => (F_OWNERSHIP_ordinal.ne F_MANAGEMENT_ordinal (fun q => absurd (Value.int.inj q) (by decide))) (Value.ref.inj q)) (by decide) (by decide) ?_
    show own_At p e below m T1 17 #[.val (.ref a_MANAGEMENT), .val (.ref a_GIVE)] [] t
    refine XS.iconst X1.here hx rfl (hb hby d_prog_14_method_8_code_17) ?_
    show own_At p e below m T1 18 #[.val (.ref a_MANAGEMENT), .val (.ref a_GIVE)] [(.int (0 : Int32))] t
    exact k
  obtain ⟨fs, hr, hrun, hended, hW, hsame⟩ := X1.leave (v := some (.int (0 : Int32))) (fun h => by rw [Bd.returns] at h; cases h)
  refine hNG ⟨_, _, k2 _ ?_, hrun, hended, _, _, rfl, ?_, ⟨_, rfl⟩, hW, hsame.mono (by decide) (by decide)⟩
  · exact retN X1 hx (t := .boolean) Bd.returns (by simp) (hb hby d_prog_14_method_8_code_18) hr
  · show Q_f8 Z a_MANAGEMENT a_GIVE a_OWNERSHIP a_ADMIN h0 n0 _ T1.heap _
    rw [e1]
    exact ⟨rfl, N0, rfl⟩
theorem ef_f9 (m : MethodId) (x0 : Addr) (x1 : Addr)  : entryFrame m #[(.ref x0), (.ref x1)] 2 = mkF m 0 #[.val (.ref x0), .val (.ref x1)] [] := by first | (simp [entryFrame, mkF, argsToLocals, Value.category]; done) | rfl
def Q_f9 (Z : State) (a_MANAGEMENT : Addr) (a_GIVE : Addr) (a_OWNERSHIP : Addr) (a_ADMIN : Addr) (h0 : Heap) (n0 : Nat) (v : Option Value) (h : Heap) (L : List Loc) : Prop := v = some (.int (0 : Int32)) ∧ Fr n0 L ∧ h = h0
set_option maxRecDepth 65536 in
set_option maxHeartbeats 40000000 in
theorem rm_f9 (l : Launch) (Z : State) (a0 : Array Value) (hw : ∀ d ∈ tables_1, d.before a0 Z = true) (ws : List Jvm.Cond) (a_MANAGEMENT : Addr) (a_GIVE : Addr) (a_OWNERSHIP : Addr) (a_ADMIN : Addr) (h0 : Heap) (n0 : Nat) (O0 : Old Z n0 h0) (hE : EV Z a_MANAGEMENT a_GIVE a_OWNERSHIP a_ADMIN) :
    MetFree l own_m1 (head1 (Jvm.Cond.code own_m1 prog_14_method_8_code 2 (some .boolean) :: ws) ({ frames := 0, cells := 0, slots := 0, locals := 0 } : Room)) (fun a U => a = #[(.ref a_OWNERSHIP), (.ref a_MANAGEMENT)] ∧ Z.Warmed39 U.vm ∧ U.heap = h0) (fun _ _ _ _ _ => True) (fun _ U o U' => ∃ v L, o = .returned v ∧ Q_f9 Z a_MANAGEMENT a_GIVE a_OWNERSHIP a_ADMIN h0 n0 v U'.heap L ∧ FrameEnd U o U' L ({ frames := 0, cells := 0, slots := 0, locals := 0 } : Room).cells ({ frames := 0, cells := 0, slots := 0, locals := 0 } : Room).slots) := by
  refine MetFree.of_bodySF (plainFor_of_name pn_com_example_scoped_authority_scopedauthority_Authority) hisR ?_
  intro p e s m args below meth c s₁ Bd hml0 hP hK
  obtain ⟨rfl, hZ, hh⟩ := hP
  have hx := Bd.exec
  have hby := Bd.bytes
  have hml : c.maxLocals = 2 := hml0
  have hown : s.vm.findClass "com/example/scoped_authority/scopedauthority/Authority" = some m.cls := findClass_of_methodNamed Bd.named
  have hnm := (name_of_methodNamed Bd.named Bd.method).1
  have X0 : Stand p l e ({ frames := 0, cells := 0, slots := 0, locals := 0 } : Room) s m #[(.ref a_OWNERSHIP), (.ref a_MANAGEMENT)] below meth c s₁ [] 0 0 := Stand.of_body Bd
  have e0 : s₁.heap = h0 := by rw [← hh, Bd.state]; rfl
  have N0 := Fr.nil n0
  refine Classical.byContradiction fun hNG => ?_
  have K0 := Keep.refl h0 []
  have k0 : ∀ t, own_At p e below m s₁ 0 #[.val (.ref a_OWNERSHIP), .val (.ref a_MANAGEMENT)] [] t → own_En p e below m s₁ #[(.ref a_OWNERSHIP), (.ref a_MANAGEMENT)] 2 t := fun t k => castTop (ef_f9 m a_OWNERSHIP a_MANAGEMENT ) k
  obtain ⟨S_MANAGEMENT, E_MANAGEMENT, S_GIVE, E_GIVE, F_GIVE_ordinal, F_MANAGEMENT_ordinal, S_OWNERSHIP, E_OWNERSHIP, F_GIVE_under, F_OWNERSHIP_ordinal, S_ADMIN, E_ADMIN, F_ADMIN_ordinal, F_OWNERSHIP_under, F_MANAGEMENT_under, F_ADMIN_under⟩ := (id hE : EV Z a_MANAGEMENT a_GIVE a_OWNERSHIP a_ADMIN)
  obtain ⟨T1, X1, e1, st1⟩ := getF X0 hx hZ hown (host := "") (Or.inl (own_w hw 14 rfl)) Via.refl e0 (F_MANAGEMENT_under.ext O0.2) (g := (mkF m 6 #[.val (.ref a_OWNERSHIP), .val (.ref a_MANAGEMENT)] [(.ref a_MANAGEMENT)])) rfl rfl (hb hby d_prog_14_method_8_code_6)
  have k2 : ∀ t, own_At p e below m T1 18 #[.val (.ref a_OWNERSHIP), .val (.ref a_MANAGEMENT)] [(.int (0 : Int32))] t → own_En p e below m s₁ #[(.ref a_OWNERSHIP), (.ref a_MANAGEMENT)] 2 t := by
    intro t k
    refine k0 t ?_
    refine XS.aloadN X0.here hx rfl (hb hby d_prog_14_method_8_code_0) rfl rfl ?_
    show own_At p e below m s₁ 1 #[.val (.ref a_OWNERSHIP), .val (.ref a_MANAGEMENT)] [(.ref a_MANAGEMENT)] t
    refine XS.aloadN X0.here hx rfl (hb hby d_prog_14_method_8_code_1) rfl rfl ?_
    show own_At p e below m s₁ 2 #[.val (.ref a_OWNERSHIP), .val (.ref a_MANAGEMENT)] [(.ref a_OWNERSHIP), (.ref a_MANAGEMENT)] t
    refine Jvm.RoadKit.acmp (g := (mkF m 2 #[.val (.ref a_OWNERSHIP), .val (.ref a_MANAGEMENT)] [(.ref a_OWNERSHIP), (.ref a_MANAGEMENT)])) X0 hx rfl rfl rfl (pc0 := 2) (pc' := 5) (same := false) rfl (hb hby d_prog_14_method_8_code_2) rfl (decide_eq_false fun q => (F_MANAGEMENT_ordinal.ne F_OWNERSHIP_ordinal (fun q => absurd (Value.int.inj q) (by decide))) (Value.ref.inj q)) (by decide) (by decide) ?_
    show own_At p e below m s₁ 5 #[.val (.ref a_OWNERSHIP), .val (.ref a_MANAGEMENT)] [] t
    refine XS.aloadN X0.here hx rfl (hb hby d_prog_14_method_8_code_5) rfl rfl ?_
    show own_At p e below m s₁ 6 #[.val (.ref a_OWNERSHIP), .val (.ref a_MANAGEMENT)] [(.ref a_MANAGEMENT)] t
    refine st1 _ ?_
    show own_At p e below m T1 9 #[.val (.ref a_OWNERSHIP), .val (.ref a_MANAGEMENT)] [.null] t
    refine XS.aloadN X1.here hx rfl (hb hby d_prog_14_method_8_code_9) rfl rfl ?_
    show own_At p e below m T1 10 #[.val (.ref a_OWNERSHIP), .val (.ref a_MANAGEMENT)] [(.ref a_OWNERSHIP), .null] t
    refine Jvm.RoadKit.acmp (g := (mkF m 10 #[.val (.ref a_OWNERSHIP), .val (.ref a_MANAGEMENT)] [(.ref a_OWNERSHIP), .null])) X1 hx rfl rfl rfl (pc0 := 10) (pc' := 17) (same := false) rfl (hb hby d_prog_14_method_8_code_10) rfl (decide_eq_false nofun) (by decide) (by decide) ?_
    show own_At p e below m T1 17 #[.val (.ref a_OWNERSHIP), .val (.ref a_MANAGEMENT)] [] t
    refine XS.iconst X1.here hx rfl (hb hby d_prog_14_method_8_code_17) ?_
    show own_At p e below m T1 18 #[.val (.ref a_OWNERSHIP), .val (.ref a_MANAGEMENT)] [(.int (0 : Int32))] t
    exact k
  obtain ⟨fs, hr, hrun, hended, hW, hsame⟩ := X1.leave (v := some (.int (0 : Int32))) (fun h => by rw [Bd.returns] at h; cases h)
  refine hNG ⟨_, _, k2 _ ?_, hrun, hended, _, _, rfl, ?_, ⟨_, rfl⟩, hW, hsame.mono (by decide) (by decide)⟩
  · exact retN X1 hx (t := .boolean) Bd.returns (by simp) (hb hby d_prog_14_method_8_code_18) hr
  · show Q_f9 Z a_MANAGEMENT a_GIVE a_OWNERSHIP a_ADMIN h0 n0 _ T1.heap _
    rw [e1]
    exact ⟨rfl, N0, rfl⟩
theorem ef_f10 (m : MethodId) (x0 : Addr) (x1 : Addr)  : entryFrame m #[(.ref x0), (.ref x1)] 2 = mkF m 0 #[.val (.ref x0), .val (.ref x1)] [] := by first | (simp [entryFrame, mkF, argsToLocals, Value.category]; done) | rfl
def Q_f10 (Z : State) (a_MANAGEMENT : Addr) (a_GIVE : Addr) (a_OWNERSHIP : Addr) (a_ADMIN : Addr) (h0 : Heap) (n0 : Nat) (v : Option Value) (h : Heap) (L : List Loc) : Prop := v = some (.int (1 : Int32)) ∧ Fr n0 L ∧ h = h0
set_option maxRecDepth 65536 in
set_option maxHeartbeats 40000000 in
theorem rm_f10 (l : Launch) (Z : State) (a0 : Array Value) (hw : ∀ d ∈ tables_1, d.before a0 Z = true) (ws : List Jvm.Cond) (a_MANAGEMENT : Addr) (a_GIVE : Addr) (a_OWNERSHIP : Addr) (a_ADMIN : Addr) (h0 : Heap) (n0 : Nat) (O0 : Old Z n0 h0) (hE : EV Z a_MANAGEMENT a_GIVE a_OWNERSHIP a_ADMIN) :
    MetFree l own_m1 (head1 (Jvm.Cond.code own_m1 prog_14_method_8_code 2 (some .boolean) :: ws) ({ frames := 0, cells := 0, slots := 0, locals := 0 } : Room)) (fun a U => a = #[(.ref a_OWNERSHIP), (.ref a_OWNERSHIP)] ∧ Z.Warmed39 U.vm ∧ U.heap = h0) (fun _ _ _ _ _ => True) (fun _ U o U' => ∃ v L, o = .returned v ∧ Q_f10 Z a_MANAGEMENT a_GIVE a_OWNERSHIP a_ADMIN h0 n0 v U'.heap L ∧ FrameEnd U o U' L ({ frames := 0, cells := 0, slots := 0, locals := 0 } : Room).cells ({ frames := 0, cells := 0, slots := 0, locals := 0 } : Room).slots) := by
  refine MetFree.of_bodySF (plainFor_of_name pn_com_example_scoped_authority_scopedauthority_Authority) hisR ?_
  intro p e s m args below meth c s₁ Bd hml0 hP hK
  obtain ⟨rfl, hZ, hh⟩ := hP
  have hx := Bd.exec
  have hby := Bd.bytes
  have hml : c.maxLocals = 2 := hml0
  have hown : s.vm.findClass "com/example/scoped_authority/scopedauthority/Authority" = some m.cls := findClass_of_methodNamed Bd.named
  have hnm := (name_of_methodNamed Bd.named Bd.method).1
  have X0 : Stand p l e ({ frames := 0, cells := 0, slots := 0, locals := 0 } : Room) s m #[(.ref a_OWNERSHIP), (.ref a_OWNERSHIP)] below meth c s₁ [] 0 0 := Stand.of_body Bd
  have e0 : s₁.heap = h0 := by rw [← hh, Bd.state]; rfl
  have N0 := Fr.nil n0
  refine Classical.byContradiction fun hNG => ?_
  have K0 := Keep.refl h0 []
  have k0 : ∀ t, own_At p e below m s₁ 0 #[.val (.ref a_OWNERSHIP), .val (.ref a_OWNERSHIP)] [] t → own_En p e below m s₁ #[(.ref a_OWNERSHIP), (.ref a_OWNERSHIP)] 2 t := fun t k => castTop (ef_f10 m a_OWNERSHIP a_OWNERSHIP ) k
  obtain ⟨S_MANAGEMENT, E_MANAGEMENT, S_GIVE, E_GIVE, F_GIVE_ordinal, F_MANAGEMENT_ordinal, S_OWNERSHIP, E_OWNERSHIP, F_GIVE_under, F_OWNERSHIP_ordinal, S_ADMIN, E_ADMIN, F_ADMIN_ordinal, F_OWNERSHIP_under, F_MANAGEMENT_under, F_ADMIN_under⟩ := (id hE : EV Z a_MANAGEMENT a_GIVE a_OWNERSHIP a_ADMIN)
  have k1 : ∀ t, own_At p e below m s₁ 18 #[.val (.ref a_OWNERSHIP), .val (.ref a_OWNERSHIP)] [(.int (1 : Int32))] t → own_En p e below m s₁ #[(.ref a_OWNERSHIP), (.ref a_OWNERSHIP)] 2 t := by
    intro t k
    refine k0 t ?_
    refine XS.aloadN X0.here hx rfl (hb hby d_prog_14_method_8_code_0) rfl rfl ?_
    show own_At p e below m s₁ 1 #[.val (.ref a_OWNERSHIP), .val (.ref a_OWNERSHIP)] [(.ref a_OWNERSHIP)] t
    refine XS.aloadN X0.here hx rfl (hb hby d_prog_14_method_8_code_1) rfl rfl ?_
    show own_At p e below m s₁ 2 #[.val (.ref a_OWNERSHIP), .val (.ref a_OWNERSHIP)] [(.ref a_OWNERSHIP), (.ref a_OWNERSHIP)] t
    refine Jvm.RoadKit.acmp (g := (mkF m 2 #[.val (.ref a_OWNERSHIP), .val (.ref a_OWNERSHIP)] [(.ref a_OWNERSHIP), (.ref a_OWNERSHIP)])) X0 hx rfl rfl rfl (pc0 := 2) (pc' := 13) (same := true) rfl (hb hby d_prog_14_method_8_code_2) rfl (decide_eq_true rfl) (by decide) (by decide) ?_
    show own_At p e below m s₁ 13 #[.val (.ref a_OWNERSHIP), .val (.ref a_OWNERSHIP)] [] t
    refine XS.iconst X0.here hx rfl (hb hby d_prog_14_method_8_code_13) ?_
    show own_At p e below m s₁ 14 #[.val (.ref a_OWNERSHIP), .val (.ref a_OWNERSHIP)] [(.int (1 : Int32))] t
    refine XS.goto X0.here hx rfl (pc0 := 14) (pc' := 18) rfl (hb hby d_prog_14_method_8_code_14) (by decide) (by decide) ?_
    show own_At p e below m s₁ 18 #[.val (.ref a_OWNERSHIP), .val (.ref a_OWNERSHIP)] [(.int (1 : Int32))] t
    exact k
  obtain ⟨fs, hr, hrun, hended, hW, hsame⟩ := X0.leave (v := some (.int (1 : Int32))) (fun h => by rw [Bd.returns] at h; cases h)
  refine hNG ⟨_, _, k1 _ ?_, hrun, hended, _, _, rfl, ?_, ⟨_, rfl⟩, hW, hsame.mono (by decide) (by decide)⟩
  · exact retN X0 hx (t := .boolean) Bd.returns (by simp) (hb hby d_prog_14_method_8_code_18) hr
  · show Q_f10 Z a_MANAGEMENT a_GIVE a_OWNERSHIP a_ADMIN h0 n0 _ s₁.heap _
    rw [e0]
    exact ⟨rfl, N0, rfl⟩
theorem ef_f11 (m : MethodId) (x0 : Addr) (x1 : Addr)  : entryFrame m #[(.ref x0), (.ref x1)] 2 = mkF m 0 #[.val (.ref x0), .val (.ref x1)] [] := by first | (simp [entryFrame, mkF, argsToLocals, Value.category]; done) | rfl
def Q_f11 (Z : State) (a_MANAGEMENT : Addr) (a_GIVE : Addr) (a_OWNERSHIP : Addr) (a_ADMIN : Addr) (h0 : Heap) (n0 : Nat) (v : Option Value) (h : Heap) (L : List Loc) : Prop := v = some (.int (0 : Int32)) ∧ Fr n0 L ∧ h = h0
set_option maxRecDepth 65536 in
set_option maxHeartbeats 40000000 in
theorem rm_f11 (l : Launch) (Z : State) (a0 : Array Value) (hw : ∀ d ∈ tables_1, d.before a0 Z = true) (ws : List Jvm.Cond) (a_MANAGEMENT : Addr) (a_GIVE : Addr) (a_OWNERSHIP : Addr) (a_ADMIN : Addr) (h0 : Heap) (n0 : Nat) (O0 : Old Z n0 h0) (hE : EV Z a_MANAGEMENT a_GIVE a_OWNERSHIP a_ADMIN) :
    MetFree l own_m1 (head1 (Jvm.Cond.code own_m1 prog_14_method_8_code 2 (some .boolean) :: ws) ({ frames := 0, cells := 0, slots := 0, locals := 0 } : Room)) (fun a U => a = #[(.ref a_OWNERSHIP), (.ref a_ADMIN)] ∧ Z.Warmed39 U.vm ∧ U.heap = h0) (fun _ _ _ _ _ => True) (fun _ U o U' => ∃ v L, o = .returned v ∧ Q_f11 Z a_MANAGEMENT a_GIVE a_OWNERSHIP a_ADMIN h0 n0 v U'.heap L ∧ FrameEnd U o U' L ({ frames := 0, cells := 0, slots := 0, locals := 0 } : Room).cells ({ frames := 0, cells := 0, slots := 0, locals := 0 } : Room).slots) := by
  refine MetFree.of_bodySF (plainFor_of_name pn_com_example_scoped_authority_scopedauthority_Authority) hisR ?_
  intro p e s m args below meth c s₁ Bd hml0 hP hK
  obtain ⟨rfl, hZ, hh⟩ := hP
  have hx := Bd.exec
  have hby := Bd.bytes
  have hml : c.maxLocals = 2 := hml0
  have hown : s.vm.findClass "com/example/scoped_authority/scopedauthority/Authority" = some m.cls := findClass_of_methodNamed Bd.named
  have hnm := (name_of_methodNamed Bd.named Bd.method).1
  have X0 : Stand p l e ({ frames := 0, cells := 0, slots := 0, locals := 0 } : Room) s m #[(.ref a_OWNERSHIP), (.ref a_ADMIN)] below meth c s₁ [] 0 0 := Stand.of_body Bd
  have e0 : s₁.heap = h0 := by rw [← hh, Bd.state]; rfl
  have N0 := Fr.nil n0
  refine Classical.byContradiction fun hNG => ?_
  have K0 := Keep.refl h0 []
  have k0 : ∀ t, own_At p e below m s₁ 0 #[.val (.ref a_OWNERSHIP), .val (.ref a_ADMIN)] [] t → own_En p e below m s₁ #[(.ref a_OWNERSHIP), (.ref a_ADMIN)] 2 t := fun t k => castTop (ef_f11 m a_OWNERSHIP a_ADMIN ) k
  obtain ⟨S_MANAGEMENT, E_MANAGEMENT, S_GIVE, E_GIVE, F_GIVE_ordinal, F_MANAGEMENT_ordinal, S_OWNERSHIP, E_OWNERSHIP, F_GIVE_under, F_OWNERSHIP_ordinal, S_ADMIN, E_ADMIN, F_ADMIN_ordinal, F_OWNERSHIP_under, F_MANAGEMENT_under, F_ADMIN_under⟩ := (id hE : EV Z a_MANAGEMENT a_GIVE a_OWNERSHIP a_ADMIN)
  obtain ⟨T1, X1, e1, st1⟩ := getF X0 hx hZ hown (host := "") (Or.inl (own_w hw 14 rfl)) Via.refl e0 (F_ADMIN_under.ext O0.2) (g := (mkF m 6 #[.val (.ref a_OWNERSHIP), .val (.ref a_ADMIN)] [(.ref a_ADMIN)])) rfl rfl (hb hby d_prog_14_method_8_code_6)
  have k2 : ∀ t, own_At p e below m T1 18 #[.val (.ref a_OWNERSHIP), .val (.ref a_ADMIN)] [(.int (0 : Int32))] t → own_En p e below m s₁ #[(.ref a_OWNERSHIP), (.ref a_ADMIN)] 2 t := by
    intro t k
    refine k0 t ?_
    refine XS.aloadN X0.here hx rfl (hb hby d_prog_14_method_8_code_0) rfl rfl ?_
    show own_At p e below m s₁ 1 #[.val (.ref a_OWNERSHIP), .val (.ref a_ADMIN)] [(.ref a_ADMIN)] t
    refine XS.aloadN X0.here hx rfl (hb hby d_prog_14_method_8_code_1) rfl rfl ?_
    show own_At p e below m s₁ 2 #[.val (.ref a_OWNERSHIP), .val (.ref a_ADMIN)] [(.ref a_OWNERSHIP), (.ref a_ADMIN)] t
    refine Jvm.RoadKit.acmp (g := (mkF m 2 #[.val (.ref a_OWNERSHIP), .val (.ref a_ADMIN)] [(.ref a_OWNERSHIP), (.ref a_ADMIN)])) X0 hx rfl rfl rfl (pc0 := 2) (pc' := 5) (same := false) rfl (hb hby d_prog_14_method_8_code_2) rfl (decide_eq_false fun q => (F_ADMIN_ordinal.ne F_OWNERSHIP_ordinal (fun q => absurd (Value.int.inj q) (by decide))) (Value.ref.inj q)) (by decide) (by decide) ?_
    show own_At p e below m s₁ 5 #[.val (.ref a_OWNERSHIP), .val (.ref a_ADMIN)] [] t
    refine XS.aloadN X0.here hx rfl (hb hby d_prog_14_method_8_code_5) rfl rfl ?_
    show own_At p e below m s₁ 6 #[.val (.ref a_OWNERSHIP), .val (.ref a_ADMIN)] [(.ref a_ADMIN)] t
    refine st1 _ ?_
    show own_At p e below m T1 9 #[.val (.ref a_OWNERSHIP), .val (.ref a_ADMIN)] [(.ref a_MANAGEMENT)] t
    refine XS.aloadN X1.here hx rfl (hb hby d_prog_14_method_8_code_9) rfl rfl ?_
    show own_At p e below m T1 10 #[.val (.ref a_OWNERSHIP), .val (.ref a_ADMIN)] [(.ref a_OWNERSHIP), (.ref a_MANAGEMENT)] t
    refine Jvm.RoadKit.acmp (g := (mkF m 10 #[.val (.ref a_OWNERSHIP), .val (.ref a_ADMIN)] [(.ref a_OWNERSHIP), (.ref a_MANAGEMENT)])) X1 hx rfl rfl rfl (pc0 := 10) (pc' := 17) (same := false) rfl (hb hby d_prog_14_method_8_code_10) rfl (decide_eq_false fun q => (F_MANAGEMENT_ordinal.ne F_OWNERSHIP_ordinal (fun q => absurd (Value.int.inj q) (by decide))) (Value.ref.inj q)) (by decide) (by decide) ?_
    show own_At p e below m T1 17 #[.val (.ref a_OWNERSHIP), .val (.ref a_ADMIN)] [] t
    refine XS.iconst X1.here hx rfl (hb hby d_prog_14_method_8_code_17) ?_
    show own_At p e below m T1 18 #[.val (.ref a_OWNERSHIP), .val (.ref a_ADMIN)] [(.int (0 : Int32))] t
    exact k
  obtain ⟨fs, hr, hrun, hended, hW, hsame⟩ := X1.leave (v := some (.int (0 : Int32))) (fun h => by rw [Bd.returns] at h; cases h)
  refine hNG ⟨_, _, k2 _ ?_, hrun, hended, _, _, rfl, ?_, ⟨_, rfl⟩, hW, hsame.mono (by decide) (by decide)⟩
  · exact retN X1 hx (t := .boolean) Bd.returns (by simp) (hb hby d_prog_14_method_8_code_18) hr
  · show Q_f11 Z a_MANAGEMENT a_GIVE a_OWNERSHIP a_ADMIN h0 n0 _ T1.heap _
    rw [e1]
    exact ⟨rfl, N0, rfl⟩
theorem ef_f12 (m : MethodId) (x0 : Addr) (x1 : Addr)  : entryFrame m #[(.ref x0), (.ref x1)] 2 = mkF m 0 #[.val (.ref x0), .val (.ref x1)] [] := by first | (simp [entryFrame, mkF, argsToLocals, Value.category]; done) | rfl
def Q_f12 (Z : State) (a_MANAGEMENT : Addr) (a_GIVE : Addr) (a_OWNERSHIP : Addr) (a_ADMIN : Addr) (h0 : Heap) (n0 : Nat) (v : Option Value) (h : Heap) (L : List Loc) : Prop := v = some (.int (1 : Int32)) ∧ Fr n0 L ∧ h = h0
set_option maxRecDepth 65536 in
set_option maxHeartbeats 40000000 in
theorem rm_f12 (l : Launch) (Z : State) (a0 : Array Value) (hw : ∀ d ∈ tables_1, d.before a0 Z = true) (ws : List Jvm.Cond) (a_MANAGEMENT : Addr) (a_GIVE : Addr) (a_OWNERSHIP : Addr) (a_ADMIN : Addr) (h0 : Heap) (n0 : Nat) (O0 : Old Z n0 h0) (hE : EV Z a_MANAGEMENT a_GIVE a_OWNERSHIP a_ADMIN) :
    MetFree l own_m1 (head1 (Jvm.Cond.code own_m1 prog_14_method_8_code 2 (some .boolean) :: ws) ({ frames := 0, cells := 0, slots := 0, locals := 0 } : Room)) (fun a U => a = #[(.ref a_OWNERSHIP), (.ref a_GIVE)] ∧ Z.Warmed39 U.vm ∧ U.heap = h0) (fun _ _ _ _ _ => True) (fun _ U o U' => ∃ v L, o = .returned v ∧ Q_f12 Z a_MANAGEMENT a_GIVE a_OWNERSHIP a_ADMIN h0 n0 v U'.heap L ∧ FrameEnd U o U' L ({ frames := 0, cells := 0, slots := 0, locals := 0 } : Room).cells ({ frames := 0, cells := 0, slots := 0, locals := 0 } : Room).slots) := by
  refine MetFree.of_bodySF (plainFor_of_name pn_com_example_scoped_authority_scopedauthority_Authority) hisR ?_
  intro p e s m args below meth c s₁ Bd hml0 hP hK
  obtain ⟨rfl, hZ, hh⟩ := hP
  have hx := Bd.exec
  have hby := Bd.bytes
  have hml : c.maxLocals = 2 := hml0
  have hown : s.vm.findClass "com/example/scoped_authority/scopedauthority/Authority" = some m.cls := findClass_of_methodNamed Bd.named
  have hnm := (name_of_methodNamed Bd.named Bd.method).1
  have X0 : Stand p l e ({ frames := 0, cells := 0, slots := 0, locals := 0 } : Room) s m #[(.ref a_OWNERSHIP), (.ref a_GIVE)] below meth c s₁ [] 0 0 := Stand.of_body Bd
  have e0 : s₁.heap = h0 := by rw [← hh, Bd.state]; rfl
  have N0 := Fr.nil n0
  refine Classical.byContradiction fun hNG => ?_
  have K0 := Keep.refl h0 []
  have k0 : ∀ t, own_At p e below m s₁ 0 #[.val (.ref a_OWNERSHIP), .val (.ref a_GIVE)] [] t → own_En p e below m s₁ #[(.ref a_OWNERSHIP), (.ref a_GIVE)] 2 t := fun t k => castTop (ef_f12 m a_OWNERSHIP a_GIVE ) k
  obtain ⟨S_MANAGEMENT, E_MANAGEMENT, S_GIVE, E_GIVE, F_GIVE_ordinal, F_MANAGEMENT_ordinal, S_OWNERSHIP, E_OWNERSHIP, F_GIVE_under, F_OWNERSHIP_ordinal, S_ADMIN, E_ADMIN, F_ADMIN_ordinal, F_OWNERSHIP_under, F_MANAGEMENT_under, F_ADMIN_under⟩ := (id hE : EV Z a_MANAGEMENT a_GIVE a_OWNERSHIP a_ADMIN)
  obtain ⟨T1, X1, e1, st1⟩ := getF X0 hx hZ hown (host := "") (Or.inl (own_w hw 14 rfl)) Via.refl e0 (F_GIVE_under.ext O0.2) (g := (mkF m 6 #[.val (.ref a_OWNERSHIP), .val (.ref a_GIVE)] [(.ref a_GIVE)])) rfl rfl (hb hby d_prog_14_method_8_code_6)
  have k2 : ∀ t, own_At p e below m T1 18 #[.val (.ref a_OWNERSHIP), .val (.ref a_GIVE)] [(.int (1 : Int32))] t → own_En p e below m s₁ #[(.ref a_OWNERSHIP), (.ref a_GIVE)] 2 t := by
    intro t k
    refine k0 t ?_
    refine XS.aloadN X0.here hx rfl (hb hby d_prog_14_method_8_code_0) rfl rfl ?_
    show own_At p e below m s₁ 1 #[.val (.ref a_OWNERSHIP), .val (.ref a_GIVE)] [(.ref a_GIVE)] t
    refine XS.aloadN X0.here hx rfl (hb hby d_prog_14_method_8_code_1) rfl rfl ?_
    show own_At p e below m s₁ 2 #[.val (.ref a_OWNERSHIP), .val (.ref a_GIVE)] [(.ref a_OWNERSHIP), (.ref a_GIVE)] t
    refine Jvm.RoadKit.acmp (g := (mkF m 2 #[.val (.ref a_OWNERSHIP), .val (.ref a_GIVE)] [(.ref a_OWNERSHIP), (.ref a_GIVE)])) X0 hx rfl rfl rfl (pc0 := 2) (pc' := 5) (same := false) rfl (hb hby d_prog_14_method_8_code_2) rfl (decide_eq_false fun q => (F_GIVE_ordinal.ne F_OWNERSHIP_ordinal (fun q => absurd (Value.int.inj q) (by decide))) (Value.ref.inj q)) (by decide) (by decide) ?_
    show own_At p e below m s₁ 5 #[.val (.ref a_OWNERSHIP), .val (.ref a_GIVE)] [] t
    refine XS.aloadN X0.here hx rfl (hb hby d_prog_14_method_8_code_5) rfl rfl ?_
    show own_At p e below m s₁ 6 #[.val (.ref a_OWNERSHIP), .val (.ref a_GIVE)] [(.ref a_GIVE)] t
    refine st1 _ ?_
    show own_At p e below m T1 9 #[.val (.ref a_OWNERSHIP), .val (.ref a_GIVE)] [(.ref a_OWNERSHIP)] t
    refine XS.aloadN X1.here hx rfl (hb hby d_prog_14_method_8_code_9) rfl rfl ?_
    show own_At p e below m T1 10 #[.val (.ref a_OWNERSHIP), .val (.ref a_GIVE)] [(.ref a_OWNERSHIP), (.ref a_OWNERSHIP)] t
    refine Jvm.RoadKit.acmp (g := (mkF m 10 #[.val (.ref a_OWNERSHIP), .val (.ref a_GIVE)] [(.ref a_OWNERSHIP), (.ref a_OWNERSHIP)])) X1 hx rfl rfl rfl (pc0 := 10) (pc' := 13) (same := true) rfl (hb hby d_prog_14_method_8_code_10) rfl (decide_eq_true rfl) (by decide) (by decide) ?_
    show own_At p e below m T1 13 #[.val (.ref a_OWNERSHIP), .val (.ref a_GIVE)] [] t
    refine XS.iconst X1.here hx rfl (hb hby d_prog_14_method_8_code_13) ?_
    show own_At p e below m T1 14 #[.val (.ref a_OWNERSHIP), .val (.ref a_GIVE)] [(.int (1 : Int32))] t
    refine XS.goto X1.here hx rfl (pc0 := 14) (pc' := 18) rfl (hb hby d_prog_14_method_8_code_14) (by decide) (by decide) ?_
    show own_At p e below m T1 18 #[.val (.ref a_OWNERSHIP), .val (.ref a_GIVE)] [(.int (1 : Int32))] t
    exact k
  obtain ⟨fs, hr, hrun, hended, hW, hsame⟩ := X1.leave (v := some (.int (1 : Int32))) (fun h => by rw [Bd.returns] at h; cases h)
  refine hNG ⟨_, _, k2 _ ?_, hrun, hended, _, _, rfl, ?_, ⟨_, rfl⟩, hW, hsame.mono (by decide) (by decide)⟩
  · exact retN X1 hx (t := .boolean) Bd.returns (by simp) (hb hby d_prog_14_method_8_code_18) hr
  · show Q_f12 Z a_MANAGEMENT a_GIVE a_OWNERSHIP a_ADMIN h0 n0 _ T1.heap _
    rw [e1]
    exact ⟨rfl, N0, rfl⟩
theorem ef_f13 (m : MethodId) (x0 : Addr) (x1 : Addr)  : entryFrame m #[(.ref x0), (.ref x1)] 2 = mkF m 0 #[.val (.ref x0), .val (.ref x1)] [] := by first | (simp [entryFrame, mkF, argsToLocals, Value.category]; done) | rfl
def Q_f13 (Z : State) (a_MANAGEMENT : Addr) (a_GIVE : Addr) (a_OWNERSHIP : Addr) (a_ADMIN : Addr) (h0 : Heap) (n0 : Nat) (v : Option Value) (h : Heap) (L : List Loc) : Prop := v = some (.int (0 : Int32)) ∧ Fr n0 L ∧ h = h0
set_option maxRecDepth 65536 in
set_option maxHeartbeats 40000000 in
theorem rm_f13 (l : Launch) (Z : State) (a0 : Array Value) (hw : ∀ d ∈ tables_1, d.before a0 Z = true) (ws : List Jvm.Cond) (a_MANAGEMENT : Addr) (a_GIVE : Addr) (a_OWNERSHIP : Addr) (a_ADMIN : Addr) (h0 : Heap) (n0 : Nat) (O0 : Old Z n0 h0) (hE : EV Z a_MANAGEMENT a_GIVE a_OWNERSHIP a_ADMIN) :
    MetFree l own_m1 (head1 (Jvm.Cond.code own_m1 prog_14_method_8_code 2 (some .boolean) :: ws) ({ frames := 0, cells := 0, slots := 0, locals := 0 } : Room)) (fun a U => a = #[(.ref a_ADMIN), (.ref a_MANAGEMENT)] ∧ Z.Warmed39 U.vm ∧ U.heap = h0) (fun _ _ _ _ _ => True) (fun _ U o U' => ∃ v L, o = .returned v ∧ Q_f13 Z a_MANAGEMENT a_GIVE a_OWNERSHIP a_ADMIN h0 n0 v U'.heap L ∧ FrameEnd U o U' L ({ frames := 0, cells := 0, slots := 0, locals := 0 } : Room).cells ({ frames := 0, cells := 0, slots := 0, locals := 0 } : Room).slots) := by
  refine MetFree.of_bodySF (plainFor_of_name pn_com_example_scoped_authority_scopedauthority_Authority) hisR ?_
  intro p e s m args below meth c s₁ Bd hml0 hP hK
  obtain ⟨rfl, hZ, hh⟩ := hP
  have hx := Bd.exec
  have hby := Bd.bytes
  have hml : c.maxLocals = 2 := hml0
  have hown : s.vm.findClass "com/example/scoped_authority/scopedauthority/Authority" = some m.cls := findClass_of_methodNamed Bd.named
  have hnm := (name_of_methodNamed Bd.named Bd.method).1
  have X0 : Stand p l e ({ frames := 0, cells := 0, slots := 0, locals := 0 } : Room) s m #[(.ref a_ADMIN), (.ref a_MANAGEMENT)] below meth c s₁ [] 0 0 := Stand.of_body Bd
  have e0 : s₁.heap = h0 := by rw [← hh, Bd.state]; rfl
  have N0 := Fr.nil n0
  refine Classical.byContradiction fun hNG => ?_
  have K0 := Keep.refl h0 []
  have k0 : ∀ t, own_At p e below m s₁ 0 #[.val (.ref a_ADMIN), .val (.ref a_MANAGEMENT)] [] t → own_En p e below m s₁ #[(.ref a_ADMIN), (.ref a_MANAGEMENT)] 2 t := fun t k => castTop (ef_f13 m a_ADMIN a_MANAGEMENT ) k
  obtain ⟨S_MANAGEMENT, E_MANAGEMENT, S_GIVE, E_GIVE, F_GIVE_ordinal, F_MANAGEMENT_ordinal, S_OWNERSHIP, E_OWNERSHIP, F_GIVE_under, F_OWNERSHIP_ordinal, S_ADMIN, E_ADMIN, F_ADMIN_ordinal, F_OWNERSHIP_under, F_MANAGEMENT_under, F_ADMIN_under⟩ := (id hE : EV Z a_MANAGEMENT a_GIVE a_OWNERSHIP a_ADMIN)
  obtain ⟨T1, X1, e1, st1⟩ := getF X0 hx hZ hown (host := "") (Or.inl (own_w hw 14 rfl)) Via.refl e0 (F_MANAGEMENT_under.ext O0.2) (g := (mkF m 6 #[.val (.ref a_ADMIN), .val (.ref a_MANAGEMENT)] [(.ref a_MANAGEMENT)])) rfl rfl (hb hby d_prog_14_method_8_code_6)
  have k2 : ∀ t, own_At p e below m T1 18 #[.val (.ref a_ADMIN), .val (.ref a_MANAGEMENT)] [(.int (0 : Int32))] t → own_En p e below m s₁ #[(.ref a_ADMIN), (.ref a_MANAGEMENT)] 2 t := by
    intro t k
    refine k0 t ?_
    refine XS.aloadN X0.here hx rfl (hb hby d_prog_14_method_8_code_0) rfl rfl ?_
    show own_At p e below m s₁ 1 #[.val (.ref a_ADMIN), .val (.ref a_MANAGEMENT)] [(.ref a_MANAGEMENT)] t
    refine XS.aloadN X0.here hx rfl (hb hby d_prog_14_method_8_code_1) rfl rfl ?_
    show own_At p e below m s₁ 2 #[.val (.ref a_ADMIN), .val (.ref a_MANAGEMENT)] [(.ref a_ADMIN), (.ref a_MANAGEMENT)] t
    refine Jvm.RoadKit.acmp (g := (mkF m 2 #[.val (.ref a_ADMIN), .val (.ref a_MANAGEMENT)] [(.ref a_ADMIN), (.ref a_MANAGEMENT)])) X0 hx rfl rfl rfl (pc0 := 2) (pc' := 5) (same := false) rfl (hb hby d_prog_14_method_8_code_2) rfl (decide_eq_false fun q => (F_MANAGEMENT_ordinal.ne F_ADMIN_ordinal (fun q => absurd (Value.int.inj q) (by decide))) (Value.ref.inj q)) (by decide) (by decide) ?_
    show own_At p e below m s₁ 5 #[.val (.ref a_ADMIN), .val (.ref a_MANAGEMENT)] [] t
    refine XS.aloadN X0.here hx rfl (hb hby d_prog_14_method_8_code_5) rfl rfl ?_
    show own_At p e below m s₁ 6 #[.val (.ref a_ADMIN), .val (.ref a_MANAGEMENT)] [(.ref a_MANAGEMENT)] t
    refine st1 _ ?_
    show own_At p e below m T1 9 #[.val (.ref a_ADMIN), .val (.ref a_MANAGEMENT)] [.null] t
    refine XS.aloadN X1.here hx rfl (hb hby d_prog_14_method_8_code_9) rfl rfl ?_
    show own_At p e below m T1 10 #[.val (.ref a_ADMIN), .val (.ref a_MANAGEMENT)] [(.ref a_ADMIN), .null] t
    refine Jvm.RoadKit.acmp (g := (mkF m 10 #[.val (.ref a_ADMIN), .val (.ref a_MANAGEMENT)] [(.ref a_ADMIN), .null])) X1 hx rfl rfl rfl (pc0 := 10) (pc' := 17) (same := false) rfl (hb hby d_prog_14_method_8_code_10) rfl (decide_eq_false nofun) (by decide) (by decide) ?_
    show own_At p e below m T1 17 #[.val (.ref a_ADMIN), .val (.ref a_MANAGEMENT)] [] t
    refine XS.iconst X1.here hx rfl (hb hby d_prog_14_method_8_code_17) ?_
    show own_At p e below m T1 18 #[.val (.ref a_ADMIN), .val (.ref a_MANAGEMENT)] [(.int (0 : Int32))] t
    exact k
  obtain ⟨fs, hr, hrun, hended, hW, hsame⟩ := X1.leave (v := some (.int (0 : Int32))) (fun h => by rw [Bd.returns] at h; cases h)
  refine hNG ⟨_, _, k2 _ ?_, hrun, hended, _, _, rfl, ?_, ⟨_, rfl⟩, hW, hsame.mono (by decide) (by decide)⟩
  · exact retN X1 hx (t := .boolean) Bd.returns (by simp) (hb hby d_prog_14_method_8_code_18) hr
  · show Q_f13 Z a_MANAGEMENT a_GIVE a_OWNERSHIP a_ADMIN h0 n0 _ T1.heap _
    rw [e1]
    exact ⟨rfl, N0, rfl⟩
theorem ef_f14 (m : MethodId) (x0 : Addr) (x1 : Addr)  : entryFrame m #[(.ref x0), (.ref x1)] 2 = mkF m 0 #[.val (.ref x0), .val (.ref x1)] [] := by first | (simp [entryFrame, mkF, argsToLocals, Value.category]; done) | rfl
def Q_f14 (Z : State) (a_MANAGEMENT : Addr) (a_GIVE : Addr) (a_OWNERSHIP : Addr) (a_ADMIN : Addr) (h0 : Heap) (n0 : Nat) (v : Option Value) (h : Heap) (L : List Loc) : Prop := v = some (.int (0 : Int32)) ∧ Fr n0 L ∧ h = h0
set_option maxRecDepth 65536 in
set_option maxHeartbeats 40000000 in
theorem rm_f14 (l : Launch) (Z : State) (a0 : Array Value) (hw : ∀ d ∈ tables_1, d.before a0 Z = true) (ws : List Jvm.Cond) (a_MANAGEMENT : Addr) (a_GIVE : Addr) (a_OWNERSHIP : Addr) (a_ADMIN : Addr) (h0 : Heap) (n0 : Nat) (O0 : Old Z n0 h0) (hE : EV Z a_MANAGEMENT a_GIVE a_OWNERSHIP a_ADMIN) :
    MetFree l own_m1 (head1 (Jvm.Cond.code own_m1 prog_14_method_8_code 2 (some .boolean) :: ws) ({ frames := 0, cells := 0, slots := 0, locals := 0 } : Room)) (fun a U => a = #[(.ref a_ADMIN), (.ref a_OWNERSHIP)] ∧ Z.Warmed39 U.vm ∧ U.heap = h0) (fun _ _ _ _ _ => True) (fun _ U o U' => ∃ v L, o = .returned v ∧ Q_f14 Z a_MANAGEMENT a_GIVE a_OWNERSHIP a_ADMIN h0 n0 v U'.heap L ∧ FrameEnd U o U' L ({ frames := 0, cells := 0, slots := 0, locals := 0 } : Room).cells ({ frames := 0, cells := 0, slots := 0, locals := 0 } : Room).slots) := by
  refine MetFree.of_bodySF (plainFor_of_name pn_com_example_scoped_authority_scopedauthority_Authority) hisR ?_
  intro p e s m args below meth c s₁ Bd hml0 hP hK
  obtain ⟨rfl, hZ, hh⟩ := hP
  have hx := Bd.exec
  have hby := Bd.bytes
  have hml : c.maxLocals = 2 := hml0
  have hown : s.vm.findClass "com/example/scoped_authority/scopedauthority/Authority" = some m.cls := findClass_of_methodNamed Bd.named
  have hnm := (name_of_methodNamed Bd.named Bd.method).1
  have X0 : Stand p l e ({ frames := 0, cells := 0, slots := 0, locals := 0 } : Room) s m #[(.ref a_ADMIN), (.ref a_OWNERSHIP)] below meth c s₁ [] 0 0 := Stand.of_body Bd
  have e0 : s₁.heap = h0 := by rw [← hh, Bd.state]; rfl
  have N0 := Fr.nil n0
  refine Classical.byContradiction fun hNG => ?_
  have K0 := Keep.refl h0 []
  have k0 : ∀ t, own_At p e below m s₁ 0 #[.val (.ref a_ADMIN), .val (.ref a_OWNERSHIP)] [] t → own_En p e below m s₁ #[(.ref a_ADMIN), (.ref a_OWNERSHIP)] 2 t := fun t k => castTop (ef_f14 m a_ADMIN a_OWNERSHIP ) k
  obtain ⟨S_MANAGEMENT, E_MANAGEMENT, S_GIVE, E_GIVE, F_GIVE_ordinal, F_MANAGEMENT_ordinal, S_OWNERSHIP, E_OWNERSHIP, F_GIVE_under, F_OWNERSHIP_ordinal, S_ADMIN, E_ADMIN, F_ADMIN_ordinal, F_OWNERSHIP_under, F_MANAGEMENT_under, F_ADMIN_under⟩ := (id hE : EV Z a_MANAGEMENT a_GIVE a_OWNERSHIP a_ADMIN)
  obtain ⟨T1, X1, e1, st1⟩ := getF X0 hx hZ hown (host := "") (Or.inl (own_w hw 14 rfl)) Via.refl e0 (F_OWNERSHIP_under.ext O0.2) (g := (mkF m 6 #[.val (.ref a_ADMIN), .val (.ref a_OWNERSHIP)] [(.ref a_OWNERSHIP)])) rfl rfl (hb hby d_prog_14_method_8_code_6)
  have k2 : ∀ t, own_At p e below m T1 18 #[.val (.ref a_ADMIN), .val (.ref a_OWNERSHIP)] [(.int (0 : Int32))] t → own_En p e below m s₁ #[(.ref a_ADMIN), (.ref a_OWNERSHIP)] 2 t := by
    intro t k
    refine k0 t ?_
    refine XS.aloadN X0.here hx rfl (hb hby d_prog_14_method_8_code_0) rfl rfl ?_
    show own_At p e below m s₁ 1 #[.val (.ref a_ADMIN), .val (.ref a_OWNERSHIP)] [(.ref a_OWNERSHIP)] t
    refine XS.aloadN X0.here hx rfl (hb hby d_prog_14_method_8_code_1) rfl rfl ?_
    show own_At p e below m s₁ 2 #[.val (.ref a_ADMIN), .val (.ref a_OWNERSHIP)] [(.ref a_ADMIN), (.ref a_OWNERSHIP)] t
    refine Jvm.RoadKit.acmp (g := (mkF m 2 #[.val (.ref a_ADMIN), .val (.ref a_OWNERSHIP)] [(.ref a_ADMIN), (.ref a_OWNERSHIP)])) X0 hx rfl rfl rfl (pc0 := 2) (pc' := 5) (same := false) rfl (hb hby d_prog_14_method_8_code_2) rfl (decide_eq_false fun q => (F_OWNERSHIP_ordinal.ne F_ADMIN_ordinal (fun q => absurd (Value.int.inj q) (by decide))) (Value.ref.inj q)) (by decide) (by decide) ?_
    show own_At p e below m s₁ 5 #[.val (.ref a_ADMIN), .val (.ref a_OWNERSHIP)] [] t
    refine XS.aloadN X0.here hx rfl (hb hby d_prog_14_method_8_code_5) rfl rfl ?_
    show own_At p e below m s₁ 6 #[.val (.ref a_ADMIN), .val (.ref a_OWNERSHIP)] [(.ref a_OWNERSHIP)] t
    refine st1 _ ?_
    show own_At p e below m T1 9 #[.val (.ref a_ADMIN), .val (.ref a_OWNERSHIP)] [.null] t
    refine XS.aloadN X1.here hx rfl (hb hby d_prog_14_method_8_code_9) rfl rfl ?_
    show own_At p e below m T1 10 #[.val (.ref a_ADMIN), .val (.ref a_OWNERSHIP)] [(.ref a_ADMIN), .null] t
    refine Jvm.RoadKit.acmp (g := (mkF m 10 #[.val (.ref a_ADMIN), .val (.ref a_OWNERSHIP)] [(.ref a_ADMIN), .null])) X1 hx rfl rfl rfl (pc0 := 10) (pc' := 17) (same := false) rfl (hb hby d_prog_14_method_8_code_10) rfl (decide_eq_false nofun) (by decide) (by decide) ?_
    show own_At p e below m T1 17 #[.val (.ref a_ADMIN), .val (.ref a_OWNERSHIP)] [] t
    refine XS.iconst X1.here hx rfl (hb hby d_prog_14_method_8_code_17) ?_
    show own_At p e below m T1 18 #[.val (.ref a_ADMIN), .val (.ref a_OWNERSHIP)] [(.int (0 : Int32))] t
    exact k
  obtain ⟨fs, hr, hrun, hended, hW, hsame⟩ := X1.leave (v := some (.int (0 : Int32))) (fun h => by rw [Bd.returns] at h; cases h)
  refine hNG ⟨_, _, k2 _ ?_, hrun, hended, _, _, rfl, ?_, ⟨_, rfl⟩, hW, hsame.mono (by decide) (by decide)⟩
  · exact retN X1 hx (t := .boolean) Bd.returns (by simp) (hb hby d_prog_14_method_8_code_18) hr
  · show Q_f14 Z a_MANAGEMENT a_GIVE a_OWNERSHIP a_ADMIN h0 n0 _ T1.heap _
    rw [e1]
    exact ⟨rfl, N0, rfl⟩
theorem ef_f15 (m : MethodId) (x0 : Addr) (x1 : Addr)  : entryFrame m #[(.ref x0), (.ref x1)] 2 = mkF m 0 #[.val (.ref x0), .val (.ref x1)] [] := by first | (simp [entryFrame, mkF, argsToLocals, Value.category]; done) | rfl
def Q_f15 (Z : State) (a_MANAGEMENT : Addr) (a_GIVE : Addr) (a_OWNERSHIP : Addr) (a_ADMIN : Addr) (h0 : Heap) (n0 : Nat) (v : Option Value) (h : Heap) (L : List Loc) : Prop := v = some (.int (1 : Int32)) ∧ Fr n0 L ∧ h = h0
set_option maxRecDepth 65536 in
set_option maxHeartbeats 40000000 in
theorem rm_f15 (l : Launch) (Z : State) (a0 : Array Value) (hw : ∀ d ∈ tables_1, d.before a0 Z = true) (ws : List Jvm.Cond) (a_MANAGEMENT : Addr) (a_GIVE : Addr) (a_OWNERSHIP : Addr) (a_ADMIN : Addr) (h0 : Heap) (n0 : Nat) (O0 : Old Z n0 h0) (hE : EV Z a_MANAGEMENT a_GIVE a_OWNERSHIP a_ADMIN) :
    MetFree l own_m1 (head1 (Jvm.Cond.code own_m1 prog_14_method_8_code 2 (some .boolean) :: ws) ({ frames := 0, cells := 0, slots := 0, locals := 0 } : Room)) (fun a U => a = #[(.ref a_ADMIN), (.ref a_ADMIN)] ∧ Z.Warmed39 U.vm ∧ U.heap = h0) (fun _ _ _ _ _ => True) (fun _ U o U' => ∃ v L, o = .returned v ∧ Q_f15 Z a_MANAGEMENT a_GIVE a_OWNERSHIP a_ADMIN h0 n0 v U'.heap L ∧ FrameEnd U o U' L ({ frames := 0, cells := 0, slots := 0, locals := 0 } : Room).cells ({ frames := 0, cells := 0, slots := 0, locals := 0 } : Room).slots) := by
  refine MetFree.of_bodySF (plainFor_of_name pn_com_example_scoped_authority_scopedauthority_Authority) hisR ?_
  intro p e s m args below meth c s₁ Bd hml0 hP hK
  obtain ⟨rfl, hZ, hh⟩ := hP
  have hx := Bd.exec
  have hby := Bd.bytes
  have hml : c.maxLocals = 2 := hml0
  have hown : s.vm.findClass "com/example/scoped_authority/scopedauthority/Authority" = some m.cls := findClass_of_methodNamed Bd.named
  have hnm := (name_of_methodNamed Bd.named Bd.method).1
  have X0 : Stand p l e ({ frames := 0, cells := 0, slots := 0, locals := 0 } : Room) s m #[(.ref a_ADMIN), (.ref a_ADMIN)] below meth c s₁ [] 0 0 := Stand.of_body Bd
  have e0 : s₁.heap = h0 := by rw [← hh, Bd.state]; rfl
  have N0 := Fr.nil n0
  refine Classical.byContradiction fun hNG => ?_
  have K0 := Keep.refl h0 []
  have k0 : ∀ t, own_At p e below m s₁ 0 #[.val (.ref a_ADMIN), .val (.ref a_ADMIN)] [] t → own_En p e below m s₁ #[(.ref a_ADMIN), (.ref a_ADMIN)] 2 t := fun t k => castTop (ef_f15 m a_ADMIN a_ADMIN ) k
  obtain ⟨S_MANAGEMENT, E_MANAGEMENT, S_GIVE, E_GIVE, F_GIVE_ordinal, F_MANAGEMENT_ordinal, S_OWNERSHIP, E_OWNERSHIP, F_GIVE_under, F_OWNERSHIP_ordinal, S_ADMIN, E_ADMIN, F_ADMIN_ordinal, F_OWNERSHIP_under, F_MANAGEMENT_under, F_ADMIN_under⟩ := (id hE : EV Z a_MANAGEMENT a_GIVE a_OWNERSHIP a_ADMIN)
  have k1 : ∀ t, own_At p e below m s₁ 18 #[.val (.ref a_ADMIN), .val (.ref a_ADMIN)] [(.int (1 : Int32))] t → own_En p e below m s₁ #[(.ref a_ADMIN), (.ref a_ADMIN)] 2 t := by
    intro t k
    refine k0 t ?_
    refine XS.aloadN X0.here hx rfl (hb hby d_prog_14_method_8_code_0) rfl rfl ?_
    show own_At p e below m s₁ 1 #[.val (.ref a_ADMIN), .val (.ref a_ADMIN)] [(.ref a_ADMIN)] t
    refine XS.aloadN X0.here hx rfl (hb hby d_prog_14_method_8_code_1) rfl rfl ?_
    show own_At p e below m s₁ 2 #[.val (.ref a_ADMIN), .val (.ref a_ADMIN)] [(.ref a_ADMIN), (.ref a_ADMIN)] t
    refine Jvm.RoadKit.acmp (g := (mkF m 2 #[.val (.ref a_ADMIN), .val (.ref a_ADMIN)] [(.ref a_ADMIN), (.ref a_ADMIN)])) X0 hx rfl rfl rfl (pc0 := 2) (pc' := 13) (same := true) rfl (hb hby d_prog_14_method_8_code_2) rfl (decide_eq_true rfl) (by decide) (by decide) ?_
    show own_At p e below m s₁ 13 #[.val (.ref a_ADMIN), .val (.ref a_ADMIN)] [] t
    refine XS.iconst X0.here hx rfl (hb hby d_prog_14_method_8_code_13) ?_
    show own_At p e below m s₁ 14 #[.val (.ref a_ADMIN), .val (.ref a_ADMIN)] [(.int (1 : Int32))] t
    refine XS.goto X0.here hx rfl (pc0 := 14) (pc' := 18) rfl (hb hby d_prog_14_method_8_code_14) (by decide) (by decide) ?_
    show own_At p e below m s₁ 18 #[.val (.ref a_ADMIN), .val (.ref a_ADMIN)] [(.int (1 : Int32))] t
    exact k
  obtain ⟨fs, hr, hrun, hended, hW, hsame⟩ := X0.leave (v := some (.int (1 : Int32))) (fun h => by rw [Bd.returns] at h; cases h)
  refine hNG ⟨_, _, k1 _ ?_, hrun, hended, _, _, rfl, ?_, ⟨_, rfl⟩, hW, hsame.mono (by decide) (by decide)⟩
  · exact retN X0 hx (t := .boolean) Bd.returns (by simp) (hb hby d_prog_14_method_8_code_18) hr
  · show Q_f15 Z a_MANAGEMENT a_GIVE a_OWNERSHIP a_ADMIN h0 n0 _ s₁.heap _
    rw [e0]
    exact ⟨rfl, N0, rfl⟩
theorem ef_f16 (m : MethodId) (x0 : Addr) (x1 : Addr)  : entryFrame m #[(.ref x0), (.ref x1)] 2 = mkF m 0 #[.val (.ref x0), .val (.ref x1)] [] := by first | (simp [entryFrame, mkF, argsToLocals, Value.category]; done) | rfl
def Q_f16 (Z : State) (a_MANAGEMENT : Addr) (a_GIVE : Addr) (a_OWNERSHIP : Addr) (a_ADMIN : Addr) (h0 : Heap) (n0 : Nat) (v : Option Value) (h : Heap) (L : List Loc) : Prop := v = some (.int (0 : Int32)) ∧ Fr n0 L ∧ h = h0
set_option maxRecDepth 65536 in
set_option maxHeartbeats 40000000 in
theorem rm_f16 (l : Launch) (Z : State) (a0 : Array Value) (hw : ∀ d ∈ tables_1, d.before a0 Z = true) (ws : List Jvm.Cond) (a_MANAGEMENT : Addr) (a_GIVE : Addr) (a_OWNERSHIP : Addr) (a_ADMIN : Addr) (h0 : Heap) (n0 : Nat) (O0 : Old Z n0 h0) (hE : EV Z a_MANAGEMENT a_GIVE a_OWNERSHIP a_ADMIN) :
    MetFree l own_m1 (head1 (Jvm.Cond.code own_m1 prog_14_method_8_code 2 (some .boolean) :: ws) ({ frames := 0, cells := 0, slots := 0, locals := 0 } : Room)) (fun a U => a = #[(.ref a_ADMIN), (.ref a_GIVE)] ∧ Z.Warmed39 U.vm ∧ U.heap = h0) (fun _ _ _ _ _ => True) (fun _ U o U' => ∃ v L, o = .returned v ∧ Q_f16 Z a_MANAGEMENT a_GIVE a_OWNERSHIP a_ADMIN h0 n0 v U'.heap L ∧ FrameEnd U o U' L ({ frames := 0, cells := 0, slots := 0, locals := 0 } : Room).cells ({ frames := 0, cells := 0, slots := 0, locals := 0 } : Room).slots) := by
  refine MetFree.of_bodySF (plainFor_of_name pn_com_example_scoped_authority_scopedauthority_Authority) hisR ?_
  intro p e s m args below meth c s₁ Bd hml0 hP hK
  obtain ⟨rfl, hZ, hh⟩ := hP
  have hx := Bd.exec
  have hby := Bd.bytes
  have hml : c.maxLocals = 2 := hml0
  have hown : s.vm.findClass "com/example/scoped_authority/scopedauthority/Authority" = some m.cls := findClass_of_methodNamed Bd.named
  have hnm := (name_of_methodNamed Bd.named Bd.method).1
  have X0 : Stand p l e ({ frames := 0, cells := 0, slots := 0, locals := 0 } : Room) s m #[(.ref a_ADMIN), (.ref a_GIVE)] below meth c s₁ [] 0 0 := Stand.of_body Bd
  have e0 : s₁.heap = h0 := by rw [← hh, Bd.state]; rfl
  have N0 := Fr.nil n0
  refine Classical.byContradiction fun hNG => ?_
  have K0 := Keep.refl h0 []
  have k0 : ∀ t, own_At p e below m s₁ 0 #[.val (.ref a_ADMIN), .val (.ref a_GIVE)] [] t → own_En p e below m s₁ #[(.ref a_ADMIN), (.ref a_GIVE)] 2 t := fun t k => castTop (ef_f16 m a_ADMIN a_GIVE ) k
  obtain ⟨S_MANAGEMENT, E_MANAGEMENT, S_GIVE, E_GIVE, F_GIVE_ordinal, F_MANAGEMENT_ordinal, S_OWNERSHIP, E_OWNERSHIP, F_GIVE_under, F_OWNERSHIP_ordinal, S_ADMIN, E_ADMIN, F_ADMIN_ordinal, F_OWNERSHIP_under, F_MANAGEMENT_under, F_ADMIN_under⟩ := (id hE : EV Z a_MANAGEMENT a_GIVE a_OWNERSHIP a_ADMIN)
  obtain ⟨T1, X1, e1, st1⟩ := getF X0 hx hZ hown (host := "") (Or.inl (own_w hw 14 rfl)) Via.refl e0 (F_GIVE_under.ext O0.2) (g := (mkF m 6 #[.val (.ref a_ADMIN), .val (.ref a_GIVE)] [(.ref a_GIVE)])) rfl rfl (hb hby d_prog_14_method_8_code_6)
  have k2 : ∀ t, own_At p e below m T1 18 #[.val (.ref a_ADMIN), .val (.ref a_GIVE)] [(.int (0 : Int32))] t → own_En p e below m s₁ #[(.ref a_ADMIN), (.ref a_GIVE)] 2 t := by
    intro t k
    refine k0 t ?_
    refine XS.aloadN X0.here hx rfl (hb hby d_prog_14_method_8_code_0) rfl rfl ?_
    show own_At p e below m s₁ 1 #[.val (.ref a_ADMIN), .val (.ref a_GIVE)] [(.ref a_GIVE)] t
    refine XS.aloadN X0.here hx rfl (hb hby d_prog_14_method_8_code_1) rfl rfl ?_
    show own_At p e below m s₁ 2 #[.val (.ref a_ADMIN), .val (.ref a_GIVE)] [(.ref a_ADMIN), (.ref a_GIVE)] t
    refine Jvm.RoadKit.acmp (g := (mkF m 2 #[.val (.ref a_ADMIN), .val (.ref a_GIVE)] [(.ref a_ADMIN), (.ref a_GIVE)])) X0 hx rfl rfl rfl (pc0 := 2) (pc' := 5) (same := false) rfl (hb hby d_prog_14_method_8_code_2) rfl (decide_eq_false fun q => (F_GIVE_ordinal.ne F_ADMIN_ordinal (fun q => absurd (Value.int.inj q) (by decide))) (Value.ref.inj q)) (by decide) (by decide) ?_
    show own_At p e below m s₁ 5 #[.val (.ref a_ADMIN), .val (.ref a_GIVE)] [] t
    refine XS.aloadN X0.here hx rfl (hb hby d_prog_14_method_8_code_5) rfl rfl ?_
    show own_At p e below m s₁ 6 #[.val (.ref a_ADMIN), .val (.ref a_GIVE)] [(.ref a_GIVE)] t
    refine st1 _ ?_
    show own_At p e below m T1 9 #[.val (.ref a_ADMIN), .val (.ref a_GIVE)] [(.ref a_OWNERSHIP)] t
    refine XS.aloadN X1.here hx rfl (hb hby d_prog_14_method_8_code_9) rfl rfl ?_
    show own_At p e below m T1 10 #[.val (.ref a_ADMIN), .val (.ref a_GIVE)] [(.ref a_ADMIN), (.ref a_OWNERSHIP)] t
    refine Jvm.RoadKit.acmp (g := (mkF m 10 #[.val (.ref a_ADMIN), .val (.ref a_GIVE)] [(.ref a_ADMIN), (.ref a_OWNERSHIP)])) X1 hx rfl rfl rfl (pc0 := 10) (pc' := 17) (same := false) rfl (hb hby d_prog_14_method_8_code_10) rfl (decide_eq_false fun q => (F_OWNERSHIP_ordinal.ne F_ADMIN_ordinal (fun q => absurd (Value.int.inj q) (by decide))) (Value.ref.inj q)) (by decide) (by decide) ?_
    show own_At p e below m T1 17 #[.val (.ref a_ADMIN), .val (.ref a_GIVE)] [] t
    refine XS.iconst X1.here hx rfl (hb hby d_prog_14_method_8_code_17) ?_
    show own_At p e below m T1 18 #[.val (.ref a_ADMIN), .val (.ref a_GIVE)] [(.int (0 : Int32))] t
    exact k
  obtain ⟨fs, hr, hrun, hended, hW, hsame⟩ := X1.leave (v := some (.int (0 : Int32))) (fun h => by rw [Bd.returns] at h; cases h)
  refine hNG ⟨_, _, k2 _ ?_, hrun, hended, _, _, rfl, ?_, ⟨_, rfl⟩, hW, hsame.mono (by decide) (by decide)⟩
  · exact retN X1 hx (t := .boolean) Bd.returns (by simp) (hb hby d_prog_14_method_8_code_18) hr
  · show Q_f16 Z a_MANAGEMENT a_GIVE a_OWNERSHIP a_ADMIN h0 n0 _ T1.heap _
    rw [e1]
    exact ⟨rfl, N0, rfl⟩
theorem ef_f17 (m : MethodId) (x0 : Addr) (x1 : Addr)  : entryFrame m #[(.ref x0), (.ref x1)] 2 = mkF m 0 #[.val (.ref x0), .val (.ref x1)] [] := by first | (simp [entryFrame, mkF, argsToLocals, Value.category]; done) | rfl
def Q_f17 (Z : State) (a_MANAGEMENT : Addr) (a_GIVE : Addr) (a_OWNERSHIP : Addr) (a_ADMIN : Addr) (h0 : Heap) (n0 : Nat) (v : Option Value) (h : Heap) (L : List Loc) : Prop := v = some (.int (0 : Int32)) ∧ Fr n0 L ∧ h = h0
set_option maxRecDepth 65536 in
set_option maxHeartbeats 40000000 in
theorem rm_f17 (l : Launch) (Z : State) (a0 : Array Value) (hw : ∀ d ∈ tables_1, d.before a0 Z = true) (ws : List Jvm.Cond) (a_MANAGEMENT : Addr) (a_GIVE : Addr) (a_OWNERSHIP : Addr) (a_ADMIN : Addr) (h0 : Heap) (n0 : Nat) (O0 : Old Z n0 h0) (hE : EV Z a_MANAGEMENT a_GIVE a_OWNERSHIP a_ADMIN) :
    MetFree l own_m1 (head1 (Jvm.Cond.code own_m1 prog_14_method_8_code 2 (some .boolean) :: ws) ({ frames := 0, cells := 0, slots := 0, locals := 0 } : Room)) (fun a U => a = #[(.ref a_GIVE), (.ref a_MANAGEMENT)] ∧ Z.Warmed39 U.vm ∧ U.heap = h0) (fun _ _ _ _ _ => True) (fun _ U o U' => ∃ v L, o = .returned v ∧ Q_f17 Z a_MANAGEMENT a_GIVE a_OWNERSHIP a_ADMIN h0 n0 v U'.heap L ∧ FrameEnd U o U' L ({ frames := 0, cells := 0, slots := 0, locals := 0 } : Room).cells ({ frames := 0, cells := 0, slots := 0, locals := 0 } : Room).slots) := by
  refine MetFree.of_bodySF (plainFor_of_name pn_com_example_scoped_authority_scopedauthority_Authority) hisR ?_
  intro p e s m args below meth c s₁ Bd hml0 hP hK
  obtain ⟨rfl, hZ, hh⟩ := hP
  have hx := Bd.exec
  have hby := Bd.bytes
  have hml : c.maxLocals = 2 := hml0
  have hown : s.vm.findClass "com/example/scoped_authority/scopedauthority/Authority" = some m.cls := findClass_of_methodNamed Bd.named
  have hnm := (name_of_methodNamed Bd.named Bd.method).1
  have X0 : Stand p l e ({ frames := 0, cells := 0, slots := 0, locals := 0 } : Room) s m #[(.ref a_GIVE), (.ref a_MANAGEMENT)] below meth c s₁ [] 0 0 := Stand.of_body Bd
  have e0 : s₁.heap = h0 := by rw [← hh, Bd.state]; rfl
  have N0 := Fr.nil n0
  refine Classical.byContradiction fun hNG => ?_
  have K0 := Keep.refl h0 []
  have k0 : ∀ t, own_At p e below m s₁ 0 #[.val (.ref a_GIVE), .val (.ref a_MANAGEMENT)] [] t → own_En p e below m s₁ #[(.ref a_GIVE), (.ref a_MANAGEMENT)] 2 t := fun t k => castTop (ef_f17 m a_GIVE a_MANAGEMENT ) k
  obtain ⟨S_MANAGEMENT, E_MANAGEMENT, S_GIVE, E_GIVE, F_GIVE_ordinal, F_MANAGEMENT_ordinal, S_OWNERSHIP, E_OWNERSHIP, F_GIVE_under, F_OWNERSHIP_ordinal, S_ADMIN, E_ADMIN, F_ADMIN_ordinal, F_OWNERSHIP_under, F_MANAGEMENT_under, F_ADMIN_under⟩ := (id hE : EV Z a_MANAGEMENT a_GIVE a_OWNERSHIP a_ADMIN)
  obtain ⟨T1, X1, e1, st1⟩ := getF X0 hx hZ hown (host := "") (Or.inl (own_w hw 14 rfl)) Via.refl e0 (F_MANAGEMENT_under.ext O0.2) (g := (mkF m 6 #[.val (.ref a_GIVE), .val (.ref a_MANAGEMENT)] [(.ref a_MANAGEMENT)])) rfl rfl (hb hby d_prog_14_method_8_code_6)
  have k2 : ∀ t, own_At p e below m T1 18 #[.val (.ref a_GIVE), .val (.ref a_MANAGEMENT)] [(.int (0 : Int32))] t → own_En p e below m s₁ #[(.ref a_GIVE), (.ref a_MANAGEMENT)] 2 t := by
    intro t k
    refine k0 t ?_
    refine XS.aloadN X0.here hx rfl (hb hby d_prog_14_method_8_code_0) rfl rfl ?_
    show own_At p e below m s₁ 1 #[.val (.ref a_GIVE), .val (.ref a_MANAGEMENT)] [(.ref a_MANAGEMENT)] t
    refine XS.aloadN X0.here hx rfl (hb hby d_prog_14_method_8_code_1) rfl rfl ?_
    show own_At p e below m s₁ 2 #[.val (.ref a_GIVE), .val (.ref a_MANAGEMENT)] [(.ref a_GIVE), (.ref a_MANAGEMENT)] t
    refine Jvm.RoadKit.acmp (g := (mkF m 2 #[.val (.ref a_GIVE), .val (.ref a_MANAGEMENT)] [(.ref a_GIVE), (.ref a_MANAGEMENT)])) X0 hx rfl rfl rfl (pc0 := 2) (pc' := 5) (same := false) rfl (hb hby d_prog_14_method_8_code_2) rfl (decide_eq_false fun q => (F_MANAGEMENT_ordinal.ne F_GIVE_ordinal (fun q => absurd (Value.int.inj q) (by decide))) (Value.ref.inj q)) (by decide) (by decide) ?_
    show own_At p e below m s₁ 5 #[.val (.ref a_GIVE), .val (.ref a_MANAGEMENT)] [] t
    refine XS.aloadN X0.here hx rfl (hb hby d_prog_14_method_8_code_5) rfl rfl ?_
    show own_At p e below m s₁ 6 #[.val (.ref a_GIVE), .val (.ref a_MANAGEMENT)] [(.ref a_MANAGEMENT)] t
    refine st1 _ ?_
    show own_At p e below m T1 9 #[.val (.ref a_GIVE), .val (.ref a_MANAGEMENT)] [.null] t
    refine XS.aloadN X1.here hx rfl (hb hby d_prog_14_method_8_code_9) rfl rfl ?_
    show own_At p e below m T1 10 #[.val (.ref a_GIVE), .val (.ref a_MANAGEMENT)] [(.ref a_GIVE), .null] t
    refine Jvm.RoadKit.acmp (g := (mkF m 10 #[.val (.ref a_GIVE), .val (.ref a_MANAGEMENT)] [(.ref a_GIVE), .null])) X1 hx rfl rfl rfl (pc0 := 10) (pc' := 17) (same := false) rfl (hb hby d_prog_14_method_8_code_10) rfl (decide_eq_false nofun) (by decide) (by decide) ?_
    show own_At p e below m T1 17 #[.val (.ref a_GIVE), .val (.ref a_MANAGEMENT)] [] t
    refine XS.iconst X1.here hx rfl (hb hby d_prog_14_method_8_code_17) ?_
    show own_At p e below m T1 18 #[.val (.ref a_GIVE), .val (.ref a_MANAGEMENT)] [(.int (0 : Int32))] t
    exact k
  obtain ⟨fs, hr, hrun, hended, hW, hsame⟩ := X1.leave (v := some (.int (0 : Int32))) (fun h => by rw [Bd.returns] at h; cases h)
  refine hNG ⟨_, _, k2 _ ?_, hrun, hended, _, _, rfl, ?_, ⟨_, rfl⟩, hW, hsame.mono (by decide) (by decide)⟩
  · exact retN X1 hx (t := .boolean) Bd.returns (by simp) (hb hby d_prog_14_method_8_code_18) hr
  · show Q_f17 Z a_MANAGEMENT a_GIVE a_OWNERSHIP a_ADMIN h0 n0 _ T1.heap _
    rw [e1]
    exact ⟨rfl, N0, rfl⟩
theorem ef_f18 (m : MethodId) (x0 : Addr) (x1 : Addr)  : entryFrame m #[(.ref x0), (.ref x1)] 2 = mkF m 0 #[.val (.ref x0), .val (.ref x1)] [] := by first | (simp [entryFrame, mkF, argsToLocals, Value.category]; done) | rfl
def Q_f18 (Z : State) (a_MANAGEMENT : Addr) (a_GIVE : Addr) (a_OWNERSHIP : Addr) (a_ADMIN : Addr) (h0 : Heap) (n0 : Nat) (v : Option Value) (h : Heap) (L : List Loc) : Prop := v = some (.int (0 : Int32)) ∧ Fr n0 L ∧ h = h0
set_option maxRecDepth 65536 in
set_option maxHeartbeats 40000000 in
theorem rm_f18 (l : Launch) (Z : State) (a0 : Array Value) (hw : ∀ d ∈ tables_1, d.before a0 Z = true) (ws : List Jvm.Cond) (a_MANAGEMENT : Addr) (a_GIVE : Addr) (a_OWNERSHIP : Addr) (a_ADMIN : Addr) (h0 : Heap) (n0 : Nat) (O0 : Old Z n0 h0) (hE : EV Z a_MANAGEMENT a_GIVE a_OWNERSHIP a_ADMIN) :
    MetFree l own_m1 (head1 (Jvm.Cond.code own_m1 prog_14_method_8_code 2 (some .boolean) :: ws) ({ frames := 0, cells := 0, slots := 0, locals := 0 } : Room)) (fun a U => a = #[(.ref a_GIVE), (.ref a_OWNERSHIP)] ∧ Z.Warmed39 U.vm ∧ U.heap = h0) (fun _ _ _ _ _ => True) (fun _ U o U' => ∃ v L, o = .returned v ∧ Q_f18 Z a_MANAGEMENT a_GIVE a_OWNERSHIP a_ADMIN h0 n0 v U'.heap L ∧ FrameEnd U o U' L ({ frames := 0, cells := 0, slots := 0, locals := 0 } : Room).cells ({ frames := 0, cells := 0, slots := 0, locals := 0 } : Room).slots) := by
  refine MetFree.of_bodySF (plainFor_of_name pn_com_example_scoped_authority_scopedauthority_Authority) hisR ?_
  intro p e s m args below meth c s₁ Bd hml0 hP hK
  obtain ⟨rfl, hZ, hh⟩ := hP
  have hx := Bd.exec
  have hby := Bd.bytes
  have hml : c.maxLocals = 2 := hml0
  have hown : s.vm.findClass "com/example/scoped_authority/scopedauthority/Authority" = some m.cls := findClass_of_methodNamed Bd.named
  have hnm := (name_of_methodNamed Bd.named Bd.method).1
  have X0 : Stand p l e ({ frames := 0, cells := 0, slots := 0, locals := 0 } : Room) s m #[(.ref a_GIVE), (.ref a_OWNERSHIP)] below meth c s₁ [] 0 0 := Stand.of_body Bd
  have e0 : s₁.heap = h0 := by rw [← hh, Bd.state]; rfl
  have N0 := Fr.nil n0
  refine Classical.byContradiction fun hNG => ?_
  have K0 := Keep.refl h0 []
  have k0 : ∀ t, own_At p e below m s₁ 0 #[.val (.ref a_GIVE), .val (.ref a_OWNERSHIP)] [] t → own_En p e below m s₁ #[(.ref a_GIVE), (.ref a_OWNERSHIP)] 2 t := fun t k => castTop (ef_f18 m a_GIVE a_OWNERSHIP ) k
  obtain ⟨S_MANAGEMENT, E_MANAGEMENT, S_GIVE, E_GIVE, F_GIVE_ordinal, F_MANAGEMENT_ordinal, S_OWNERSHIP, E_OWNERSHIP, F_GIVE_under, F_OWNERSHIP_ordinal, S_ADMIN, E_ADMIN, F_ADMIN_ordinal, F_OWNERSHIP_under, F_MANAGEMENT_under, F_ADMIN_under⟩ := (id hE : EV Z a_MANAGEMENT a_GIVE a_OWNERSHIP a_ADMIN)
  obtain ⟨T1, X1, e1, st1⟩ := getF X0 hx hZ hown (host := "") (Or.inl (own_w hw 14 rfl)) Via.refl e0 (F_OWNERSHIP_under.ext O0.2) (g := (mkF m 6 #[.val (.ref a_GIVE), .val (.ref a_OWNERSHIP)] [(.ref a_OWNERSHIP)])) rfl rfl (hb hby d_prog_14_method_8_code_6)
  have k2 : ∀ t, own_At p e below m T1 18 #[.val (.ref a_GIVE), .val (.ref a_OWNERSHIP)] [(.int (0 : Int32))] t → own_En p e below m s₁ #[(.ref a_GIVE), (.ref a_OWNERSHIP)] 2 t := by
    intro t k
    refine k0 t ?_
    refine XS.aloadN X0.here hx rfl (hb hby d_prog_14_method_8_code_0) rfl rfl ?_
    show own_At p e below m s₁ 1 #[.val (.ref a_GIVE), .val (.ref a_OWNERSHIP)] [(.ref a_OWNERSHIP)] t
    refine XS.aloadN X0.here hx rfl (hb hby d_prog_14_method_8_code_1) rfl rfl ?_
    show own_At p e below m s₁ 2 #[.val (.ref a_GIVE), .val (.ref a_OWNERSHIP)] [(.ref a_GIVE), (.ref a_OWNERSHIP)] t
    refine Jvm.RoadKit.acmp (g := (mkF m 2 #[.val (.ref a_GIVE), .val (.ref a_OWNERSHIP)] [(.ref a_GIVE), (.ref a_OWNERSHIP)])) X0 hx rfl rfl rfl (pc0 := 2) (pc' := 5) (same := false) rfl (hb hby d_prog_14_method_8_code_2) rfl (decide_eq_false fun q => (F_OWNERSHIP_ordinal.ne F_GIVE_ordinal (fun q => absurd (Value.int.inj q) (by decide))) (Value.ref.inj q)) (by decide) (by decide) ?_
    show own_At p e below m s₁ 5 #[.val (.ref a_GIVE), .val (.ref a_OWNERSHIP)] [] t
    refine XS.aloadN X0.here hx rfl (hb hby d_prog_14_method_8_code_5) rfl rfl ?_
    show own_At p e below m s₁ 6 #[.val (.ref a_GIVE), .val (.ref a_OWNERSHIP)] [(.ref a_OWNERSHIP)] t
    refine st1 _ ?_
    show own_At p e below m T1 9 #[.val (.ref a_GIVE), .val (.ref a_OWNERSHIP)] [.null] t
    refine XS.aloadN X1.here hx rfl (hb hby d_prog_14_method_8_code_9) rfl rfl ?_
    show own_At p e below m T1 10 #[.val (.ref a_GIVE), .val (.ref a_OWNERSHIP)] [(.ref a_GIVE), .null] t
    refine Jvm.RoadKit.acmp (g := (mkF m 10 #[.val (.ref a_GIVE), .val (.ref a_OWNERSHIP)] [(.ref a_GIVE), .null])) X1 hx rfl rfl rfl (pc0 := 10) (pc' := 17) (same := false) rfl (hb hby d_prog_14_method_8_code_10) rfl (decide_eq_false nofun) (by decide) (by decide) ?_
    show own_At p e below m T1 17 #[.val (.ref a_GIVE), .val (.ref a_OWNERSHIP)] [] t
    refine XS.iconst X1.here hx rfl (hb hby d_prog_14_method_8_code_17) ?_
    show own_At p e below m T1 18 #[.val (.ref a_GIVE), .val (.ref a_OWNERSHIP)] [(.int (0 : Int32))] t
    exact k
  obtain ⟨fs, hr, hrun, hended, hW, hsame⟩ := X1.leave (v := some (.int (0 : Int32))) (fun h => by rw [Bd.returns] at h; cases h)
  refine hNG ⟨_, _, k2 _ ?_, hrun, hended, _, _, rfl, ?_, ⟨_, rfl⟩, hW, hsame.mono (by decide) (by decide)⟩
  · exact retN X1 hx (t := .boolean) Bd.returns (by simp) (hb hby d_prog_14_method_8_code_18) hr
  · show Q_f18 Z a_MANAGEMENT a_GIVE a_OWNERSHIP a_ADMIN h0 n0 _ T1.heap _
    rw [e1]
    exact ⟨rfl, N0, rfl⟩
theorem ef_f19 (m : MethodId) (x0 : Addr) (x1 : Addr)  : entryFrame m #[(.ref x0), (.ref x1)] 2 = mkF m 0 #[.val (.ref x0), .val (.ref x1)] [] := by first | (simp [entryFrame, mkF, argsToLocals, Value.category]; done) | rfl
def Q_f19 (Z : State) (a_MANAGEMENT : Addr) (a_GIVE : Addr) (a_OWNERSHIP : Addr) (a_ADMIN : Addr) (h0 : Heap) (n0 : Nat) (v : Option Value) (h : Heap) (L : List Loc) : Prop := v = some (.int (0 : Int32)) ∧ Fr n0 L ∧ h = h0
set_option maxRecDepth 65536 in
set_option maxHeartbeats 40000000 in
theorem rm_f19 (l : Launch) (Z : State) (a0 : Array Value) (hw : ∀ d ∈ tables_1, d.before a0 Z = true) (ws : List Jvm.Cond) (a_MANAGEMENT : Addr) (a_GIVE : Addr) (a_OWNERSHIP : Addr) (a_ADMIN : Addr) (h0 : Heap) (n0 : Nat) (O0 : Old Z n0 h0) (hE : EV Z a_MANAGEMENT a_GIVE a_OWNERSHIP a_ADMIN) :
    MetFree l own_m1 (head1 (Jvm.Cond.code own_m1 prog_14_method_8_code 2 (some .boolean) :: ws) ({ frames := 0, cells := 0, slots := 0, locals := 0 } : Room)) (fun a U => a = #[(.ref a_GIVE), (.ref a_ADMIN)] ∧ Z.Warmed39 U.vm ∧ U.heap = h0) (fun _ _ _ _ _ => True) (fun _ U o U' => ∃ v L, o = .returned v ∧ Q_f19 Z a_MANAGEMENT a_GIVE a_OWNERSHIP a_ADMIN h0 n0 v U'.heap L ∧ FrameEnd U o U' L ({ frames := 0, cells := 0, slots := 0, locals := 0 } : Room).cells ({ frames := 0, cells := 0, slots := 0, locals := 0 } : Room).slots) := by
  refine MetFree.of_bodySF (plainFor_of_name pn_com_example_scoped_authority_scopedauthority_Authority) hisR ?_
  intro p e s m args below meth c s₁ Bd hml0 hP hK
  obtain ⟨rfl, hZ, hh⟩ := hP
  have hx := Bd.exec
  have hby := Bd.bytes
  have hml : c.maxLocals = 2 := hml0
  have hown : s.vm.findClass "com/example/scoped_authority/scopedauthority/Authority" = some m.cls := findClass_of_methodNamed Bd.named
  have hnm := (name_of_methodNamed Bd.named Bd.method).1
  have X0 : Stand p l e ({ frames := 0, cells := 0, slots := 0, locals := 0 } : Room) s m #[(.ref a_GIVE), (.ref a_ADMIN)] below meth c s₁ [] 0 0 := Stand.of_body Bd
  have e0 : s₁.heap = h0 := by rw [← hh, Bd.state]; rfl
  have N0 := Fr.nil n0
  refine Classical.byContradiction fun hNG => ?_
  have K0 := Keep.refl h0 []
  have k0 : ∀ t, own_At p e below m s₁ 0 #[.val (.ref a_GIVE), .val (.ref a_ADMIN)] [] t → own_En p e below m s₁ #[(.ref a_GIVE), (.ref a_ADMIN)] 2 t := fun t k => castTop (ef_f19 m a_GIVE a_ADMIN ) k
  obtain ⟨S_MANAGEMENT, E_MANAGEMENT, S_GIVE, E_GIVE, F_GIVE_ordinal, F_MANAGEMENT_ordinal, S_OWNERSHIP, E_OWNERSHIP, F_GIVE_under, F_OWNERSHIP_ordinal, S_ADMIN, E_ADMIN, F_ADMIN_ordinal, F_OWNERSHIP_under, F_MANAGEMENT_under, F_ADMIN_under⟩ := (id hE : EV Z a_MANAGEMENT a_GIVE a_OWNERSHIP a_ADMIN)
  obtain ⟨T1, X1, e1, st1⟩ := getF X0 hx hZ hown (host := "") (Or.inl (own_w hw 14 rfl)) Via.refl e0 (F_ADMIN_under.ext O0.2) (g := (mkF m 6 #[.val (.ref a_GIVE), .val (.ref a_ADMIN)] [(.ref a_ADMIN)])) rfl rfl (hb hby d_prog_14_method_8_code_6)
  have k2 : ∀ t, own_At p e below m T1 18 #[.val (.ref a_GIVE), .val (.ref a_ADMIN)] [(.int (0 : Int32))] t → own_En p e below m s₁ #[(.ref a_GIVE), (.ref a_ADMIN)] 2 t := by
    intro t k
    refine k0 t ?_
    refine XS.aloadN X0.here hx rfl (hb hby d_prog_14_method_8_code_0) rfl rfl ?_
    show own_At p e below m s₁ 1 #[.val (.ref a_GIVE), .val (.ref a_ADMIN)] [(.ref a_ADMIN)] t
    refine XS.aloadN X0.here hx rfl (hb hby d_prog_14_method_8_code_1) rfl rfl ?_
    show own_At p e below m s₁ 2 #[.val (.ref a_GIVE), .val (.ref a_ADMIN)] [(.ref a_GIVE), (.ref a_ADMIN)] t
    refine Jvm.RoadKit.acmp (g := (mkF m 2 #[.val (.ref a_GIVE), .val (.ref a_ADMIN)] [(.ref a_GIVE), (.ref a_ADMIN)])) X0 hx rfl rfl rfl (pc0 := 2) (pc' := 5) (same := false) rfl (hb hby d_prog_14_method_8_code_2) rfl (decide_eq_false fun q => (F_ADMIN_ordinal.ne F_GIVE_ordinal (fun q => absurd (Value.int.inj q) (by decide))) (Value.ref.inj q)) (by decide) (by decide) ?_
    show own_At p e below m s₁ 5 #[.val (.ref a_GIVE), .val (.ref a_ADMIN)] [] t
    refine XS.aloadN X0.here hx rfl (hb hby d_prog_14_method_8_code_5) rfl rfl ?_
    show own_At p e below m s₁ 6 #[.val (.ref a_GIVE), .val (.ref a_ADMIN)] [(.ref a_ADMIN)] t
    refine st1 _ ?_
    show own_At p e below m T1 9 #[.val (.ref a_GIVE), .val (.ref a_ADMIN)] [(.ref a_MANAGEMENT)] t
    refine XS.aloadN X1.here hx rfl (hb hby d_prog_14_method_8_code_9) rfl rfl ?_
    show own_At p e below m T1 10 #[.val (.ref a_GIVE), .val (.ref a_ADMIN)] [(.ref a_GIVE), (.ref a_MANAGEMENT)] t
    refine Jvm.RoadKit.acmp (g := (mkF m 10 #[.val (.ref a_GIVE), .val (.ref a_ADMIN)] [(.ref a_GIVE), (.ref a_MANAGEMENT)])) X1 hx rfl rfl rfl (pc0 := 10) (pc' := 17) (same := false) rfl (hb hby d_prog_14_method_8_code_10) rfl (decide_eq_false fun q => (F_MANAGEMENT_ordinal.ne F_GIVE_ordinal (fun q => absurd (Value.int.inj q) (by decide))) (Value.ref.inj q)) (by decide) (by decide) ?_
    show own_At p e below m T1 17 #[.val (.ref a_GIVE), .val (.ref a_ADMIN)] [] t
    refine XS.iconst X1.here hx rfl (hb hby d_prog_14_method_8_code_17) ?_
    show own_At p e below m T1 18 #[.val (.ref a_GIVE), .val (.ref a_ADMIN)] [(.int (0 : Int32))] t
    exact k
  obtain ⟨fs, hr, hrun, hended, hW, hsame⟩ := X1.leave (v := some (.int (0 : Int32))) (fun h => by rw [Bd.returns] at h; cases h)
  refine hNG ⟨_, _, k2 _ ?_, hrun, hended, _, _, rfl, ?_, ⟨_, rfl⟩, hW, hsame.mono (by decide) (by decide)⟩
  · exact retN X1 hx (t := .boolean) Bd.returns (by simp) (hb hby d_prog_14_method_8_code_18) hr
  · show Q_f19 Z a_MANAGEMENT a_GIVE a_OWNERSHIP a_ADMIN h0 n0 _ T1.heap _
    rw [e1]
    exact ⟨rfl, N0, rfl⟩
theorem ef_f20 (m : MethodId) (x0 : Addr) (x1 : Addr)  : entryFrame m #[(.ref x0), (.ref x1)] 2 = mkF m 0 #[.val (.ref x0), .val (.ref x1)] [] := by first | (simp [entryFrame, mkF, argsToLocals, Value.category]; done) | rfl
def Q_f20 (Z : State) (a_MANAGEMENT : Addr) (a_GIVE : Addr) (a_OWNERSHIP : Addr) (a_ADMIN : Addr) (h0 : Heap) (n0 : Nat) (v : Option Value) (h : Heap) (L : List Loc) : Prop := v = some (.int (1 : Int32)) ∧ Fr n0 L ∧ h = h0
set_option maxRecDepth 65536 in
set_option maxHeartbeats 40000000 in
theorem rm_f20 (l : Launch) (Z : State) (a0 : Array Value) (hw : ∀ d ∈ tables_1, d.before a0 Z = true) (ws : List Jvm.Cond) (a_MANAGEMENT : Addr) (a_GIVE : Addr) (a_OWNERSHIP : Addr) (a_ADMIN : Addr) (h0 : Heap) (n0 : Nat) (O0 : Old Z n0 h0) (hE : EV Z a_MANAGEMENT a_GIVE a_OWNERSHIP a_ADMIN) :
    MetFree l own_m1 (head1 (Jvm.Cond.code own_m1 prog_14_method_8_code 2 (some .boolean) :: ws) ({ frames := 0, cells := 0, slots := 0, locals := 0 } : Room)) (fun a U => a = #[(.ref a_GIVE), (.ref a_GIVE)] ∧ Z.Warmed39 U.vm ∧ U.heap = h0) (fun _ _ _ _ _ => True) (fun _ U o U' => ∃ v L, o = .returned v ∧ Q_f20 Z a_MANAGEMENT a_GIVE a_OWNERSHIP a_ADMIN h0 n0 v U'.heap L ∧ FrameEnd U o U' L ({ frames := 0, cells := 0, slots := 0, locals := 0 } : Room).cells ({ frames := 0, cells := 0, slots := 0, locals := 0 } : Room).slots) := by
  refine MetFree.of_bodySF (plainFor_of_name pn_com_example_scoped_authority_scopedauthority_Authority) hisR ?_
  intro p e s m args below meth c s₁ Bd hml0 hP hK
  obtain ⟨rfl, hZ, hh⟩ := hP
  have hx := Bd.exec
  have hby := Bd.bytes
  have hml : c.maxLocals = 2 := hml0
  have hown : s.vm.findClass "com/example/scoped_authority/scopedauthority/Authority" = some m.cls := findClass_of_methodNamed Bd.named
  have hnm := (name_of_methodNamed Bd.named Bd.method).1
  have X0 : Stand p l e ({ frames := 0, cells := 0, slots := 0, locals := 0 } : Room) s m #[(.ref a_GIVE), (.ref a_GIVE)] below meth c s₁ [] 0 0 := Stand.of_body Bd
  have e0 : s₁.heap = h0 := by rw [← hh, Bd.state]; rfl
  have N0 := Fr.nil n0
  refine Classical.byContradiction fun hNG => ?_
  have K0 := Keep.refl h0 []
  have k0 : ∀ t, own_At p e below m s₁ 0 #[.val (.ref a_GIVE), .val (.ref a_GIVE)] [] t → own_En p e below m s₁ #[(.ref a_GIVE), (.ref a_GIVE)] 2 t := fun t k => castTop (ef_f20 m a_GIVE a_GIVE ) k
  obtain ⟨S_MANAGEMENT, E_MANAGEMENT, S_GIVE, E_GIVE, F_GIVE_ordinal, F_MANAGEMENT_ordinal, S_OWNERSHIP, E_OWNERSHIP, F_GIVE_under, F_OWNERSHIP_ordinal, S_ADMIN, E_ADMIN, F_ADMIN_ordinal, F_OWNERSHIP_under, F_MANAGEMENT_under, F_ADMIN_under⟩ := (id hE : EV Z a_MANAGEMENT a_GIVE a_OWNERSHIP a_ADMIN)
  have k1 : ∀ t, own_At p e below m s₁ 18 #[.val (.ref a_GIVE), .val (.ref a_GIVE)] [(.int (1 : Int32))] t → own_En p e below m s₁ #[(.ref a_GIVE), (.ref a_GIVE)] 2 t := by
    intro t k
    refine k0 t ?_
    refine XS.aloadN X0.here hx rfl (hb hby d_prog_14_method_8_code_0) rfl rfl ?_
    show own_At p e below m s₁ 1 #[.val (.ref a_GIVE), .val (.ref a_GIVE)] [(.ref a_GIVE)] t
    refine XS.aloadN X0.here hx rfl (hb hby d_prog_14_method_8_code_1) rfl rfl ?_
    show own_At p e below m s₁ 2 #[.val (.ref a_GIVE), .val (.ref a_GIVE)] [(.ref a_GIVE), (.ref a_GIVE)] t
    refine Jvm.RoadKit.acmp (g := (mkF m 2 #[.val (.ref a_GIVE), .val (.ref a_GIVE)] [(.ref a_GIVE), (.ref a_GIVE)])) X0 hx rfl rfl rfl (pc0 := 2) (pc' := 13) (same := true) rfl (hb hby d_prog_14_method_8_code_2) rfl (decide_eq_true rfl) (by decide) (by decide) ?_
    show own_At p e below m s₁ 13 #[.val (.ref a_GIVE), .val (.ref a_GIVE)] [] t
    refine XS.iconst X0.here hx rfl (hb hby d_prog_14_method_8_code_13) ?_
    show own_At p e below m s₁ 14 #[.val (.ref a_GIVE), .val (.ref a_GIVE)] [(.int (1 : Int32))] t
    refine XS.goto X0.here hx rfl (pc0 := 14) (pc' := 18) rfl (hb hby d_prog_14_method_8_code_14) (by decide) (by decide) ?_
    show own_At p e below m s₁ 18 #[.val (.ref a_GIVE), .val (.ref a_GIVE)] [(.int (1 : Int32))] t
    exact k
  obtain ⟨fs, hr, hrun, hended, hW, hsame⟩ := X0.leave (v := some (.int (1 : Int32))) (fun h => by rw [Bd.returns] at h; cases h)
  refine hNG ⟨_, _, k1 _ ?_, hrun, hended, _, _, rfl, ?_, ⟨_, rfl⟩, hW, hsame.mono (by decide) (by decide)⟩
  · exact retN X0 hx (t := .boolean) Bd.returns (by simp) (hb hby d_prog_14_method_8_code_18) hr
  · show Q_f20 Z a_MANAGEMENT a_GIVE a_OWNERSHIP a_ADMIN h0 n0 _ s₁.heap _
    rw [e0]
    exact ⟨rfl, N0, rfl⟩
def Q_law (Z : State) (p0 : Int32) (p1 : Int32) (a_MANAGEMENT : Addr) (a_GIVE : Addr) (a_OWNERSHIP : Addr) (a_ADMIN : Addr) (h0 : Heap) (n0 : Nat) (v : Option Value) (h : Heap) (L : List Loc) : Prop := v = some (.int (1 : Int32)) ∧ Fr n0 L
set_option maxRecDepth 65536 in
set_option maxHeartbeats 40000000 in
theorem rm_law (l : Launch) (Z : State) (a0 : Array Value) (hw : ∀ d ∈ tables_1, d.before a0 Z = true) (ws : List Jvm.Cond) (p0 : Int32) (p1 : Int32) (a_MANAGEMENT : Addr) (a_GIVE : Addr) (a_OWNERSHIP : Addr) (a_ADMIN : Addr) (h0 : Heap) (n0 : Nat) (O0 : Old Z n0 h0) (hE : EV Z a_MANAGEMENT a_GIVE a_OWNERSHIP a_ADMIN) :
    MetFree l x (head1 (Jvm.Cond.code x code maxLocals ret :: ws) room_1) (fun a U => a = #[(.int p0), (.int p1)] ∧ Z.Warmed39 U.vm ∧ U.heap = h0) (fun _ _ _ _ _ => True) (fun _ U o U' => ∃ v L, o = .returned v ∧ Q_law Z p0 p1 a_MANAGEMENT a_GIVE a_OWNERSHIP a_ADMIN h0 n0 v U'.heap L ∧ FrameEnd U o U' L 0 0) := by
  refine MetFree.of_bodySF (plainFor_of_name pn_com_example_scoped_authority_scopedauthority_AuthorityIncludesPinLaw) hisR ?_
  intro p e s m args below meth c s₁ Bd hml0 hP hK
  obtain ⟨rfl, hZ, hh⟩ := hP
  have hx := Bd.exec
  have hby := Bd.bytes
  have hml : c.maxLocals = 5 := hml0
  have hown : s.vm.findClass "com/example/scoped_authority/scopedauthority/AuthorityIncludesPinLaw" = some m.cls := findClass_of_methodNamed Bd.named
  have hnm := (name_of_methodNamed Bd.named Bd.method).1
  have X0 : Stand p l e room_1 s m #[(.int p0), (.int p1)] below meth c s₁ [] 0 0 := Stand.of_body Bd
  have e0 : s₁.heap = h0 := by rw [← hh, Bd.state]; rfl
  have N0 := Fr.nil n0
  refine Classical.byContradiction fun hNG => ?_
  have K0 := Keep.refl h0 []
  have k0 : ∀ t, own_At p e below m s₁ 0 #[.val (.int p0), .val (.int p1), .unset, .unset, .unset] [] t → own_En p e below m s₁ #[(.int p0), (.int p1)] maxLocals t := fun t k => castTop (ef_law m p0 p1 ) k
  obtain ⟨S_MANAGEMENT, E_MANAGEMENT, S_GIVE, E_GIVE, F_GIVE_ordinal, F_MANAGEMENT_ordinal, S_OWNERSHIP, E_OWNERSHIP, F_GIVE_under, F_OWNERSHIP_ordinal, S_ADMIN, E_ADMIN, F_ADMIN_ordinal, F_OWNERSHIP_under, F_MANAGEMENT_under, F_ADMIN_under⟩ := (id hE : EV Z a_MANAGEMENT a_GIVE a_OWNERSHIP a_ADMIN)
  have k1 : ∀ t, own_At p e below m s₁ 3 #[.val (.int p0), .val (.int p1), .unset, .unset, .unset] [(.int (p0 &&& (3 : Int32)))] t → own_En p e below m s₁ #[(.int p0), (.int p1)] maxLocals t := by
    intro t k
    refine k0 t ?_
    refine XS.iloadN X0.here hx rfl (hb hby at_0) rfl ?_
    show own_At p e below m s₁ 1 #[.val (.int p0), .val (.int p1), .unset, .unset, .unset] [(.int p0)] t
    refine XS.iconst X0.here hx rfl (hb hby at_1) ?_
    show own_At p e below m s₁ 2 #[.val (.int p0), .val (.int p1), .unset, .unset, .unset] [(.int (3 : Int32)), (.int p0)] t
    refine XS.iand X0.here hx rfl (hb hby at_2) rfl ?_
    show own_At p e below m s₁ 3 #[.val (.int p0), .val (.int p1), .unset, .unset, .unset] [(.int (p0 &&& (3 : Int32)))] t
    exact k
  rcases own_and3 p0 with hs2 | hs2 | hs2 | hs2
  · have k3 : ∀ t, own_At p e below m s₁ 3 #[.val (.int p0), .val (.int p1), .unset, .unset, .unset] [(.int (0 : Int32))] t → own_En p e below m s₁ #[(.int p0), (.int p1)] maxLocals t := by
      intro t k
      refine k1 t ?_
      rw [hs2]
      exact k
    have k4 : ∀ t, own_At p e below m s₁ 7 #[.val (.int p0), .val (.int p1), .val (.int (0 : Int32)), .unset, .unset] [(.int (p1 &&& (3 : Int32)))] t → own_En p e below m s₁ #[(.int p0), (.int p1)] maxLocals t := by
      intro t k
      refine k3 t ?_
      refine XS.istoreN X0.here hx rfl (hb hby at_3) rfl (l' := #[.val (.int p0), .val (.int p1), .val (.int (0 : Int32)), .unset, .unset]) rfl ?_
      show own_At p e below m s₁ 4 #[.val (.int p0), .val (.int p1), .val (.int (0 : Int32)), .unset, .unset] [] t
      refine XS.iloadN X0.here hx rfl (hb hby at_4) rfl ?_
      show own_At p e below m s₁ 5 #[.val (.int p0), .val (.int p1), .val (.int (0 : Int32)), .unset, .unset] [(.int p1)] t
      refine XS.iconst X0.here hx rfl (hb hby at_5) ?_
      show own_At p e below m s₁ 6 #[.val (.int p0), .val (.int p1), .val (.int (0 : Int32)), .unset, .unset] [(.int (3 : Int32)), (.int p1)] t
      refine XS.iand X0.here hx rfl (hb hby at_6) rfl ?_
      show own_At p e below m s₁ 7 #[.val (.int p0), .val (.int p1), .val (.int (0 : Int32)), .unset, .unset] [(.int (p1 &&& (3 : Int32)))] t
      exact k
    rcases own_and3 p1 with hs5 | hs5 | hs5 | hs5
    · have k6 : ∀ t, own_At p e below m s₁ 7 #[.val (.int p0), .val (.int p1), .val (.int (0 : Int32)), .unset, .unset] [(.int (0 : Int32))] t → own_En p e below m s₁ #[(.int p0), (.int p1)] maxLocals t := by
        intro t k
        refine k4 t ?_
        rw [hs5]
        exact k
      obtain ⟨_, _, ⟨T7, L7, k7, n7⟩, -, X7, ⟨Lc7, hQ7, l7, y7, z7⟩, st7⟩ := Jvm.LawKit.callS X0 hx (y := own_m0) hown (mvT hZ (own_w hw 0 rfl)) (mvT hZ (own_w hw 1 rfl)) (mvT hZ (own_w hw 2 rfl)) (mvT hZ (own_w hw 3 rfl)) (by decide) (backOf (W := 0) (rm_f1 l Z a0 hw []  _ _ _ _ h0 n0 O0 hE) hZ (own_w hw 3 rfl) (own_w hw 2 rfl) (by decide) (by decide)) (g := (mkF m 40 #[.val (.int p0), .val (.int p1), .val (.int (0 : Int32)), .val (.int (0 : Int32)), .val (.int (1 : Int32))] [(.int (0 : Int32))])) rfl (by rw [hml]; rfl) (argsL := [(.int (0 : Int32))]) (rest := []) (lenOf pd__I_Lcom_example_scoped_authority_scopedauthority_Authority_ rfl) rfl (by show 2 * 0 + _ ≤ _; exact Nat.le_of_eq rfl) (hb hby at_40) (fun _ _ => ⟨rfl, e0, (by decide : 0 + 0 ≤ _), (by decide : 0 + 0 ≤ _)⟩)
      dsimp only [Pt.U, Pt.locs, Pt.cells, Pt.slots] at X7 l7 y7 z7 st7 hQ7
      subst l7 y7 z7
      obtain ⟨rfl, N7q, hp7⟩ := hQ7
      have N7 := Fr.app N0 N7q
      obtain ⟨_, _, ⟨T8, L8, k8, n8⟩, -, X8, ⟨Lc8, hQ8, l8, y8, z8⟩, st8⟩ := Jvm.LawKit.callS X7 hx (y := own_m0) hown (mvT hZ (own_w hw 0 rfl)) (mvT hZ (own_w hw 1 rfl)) (mvT hZ (own_w hw 2 rfl)) (mvT hZ (own_w hw 3 rfl)) (by decide) (backOf (W := 1) (rm_f1 l Z a0 hw []  _ _ _ _ h0 n0 O0 hE) hZ (own_w hw 3 rfl) (own_w hw 2 rfl) (by decide) (by decide)) (g := (mkF m 44 #[.val (.int p0), .val (.int p1), .val (.int (0 : Int32)), .val (.int (0 : Int32)), .val (.int (1 : Int32))] [(.int (0 : Int32)), (.ref a_MANAGEMENT)])) rfl (by rw [hml]; rfl) (argsL := [(.int (0 : Int32))]) (rest := [(.ref a_MANAGEMENT)]) (lenOf pd__I_Lcom_example_scoped_authority_scopedauthority_Authority_ rfl) rfl (by show 2 * 0 + _ ≤ _; exact Nat.le_of_eq rfl) (hb hby at_44) (fun _ _ => ⟨rfl, hp7, (by decide : 0 + 0 ≤ _), (by decide : 0 + 0 ≤ _)⟩)
      dsimp only [Pt.U, Pt.locs, Pt.cells, Pt.slots] at X8 l8 y8 z8 st8 hQ8
      subst l8 y8 z8
      obtain ⟨rfl, N8q, hp8⟩ := hQ8
      have N8 := Fr.app N7 N8q
      obtain ⟨cq9, kq9, q9a, q9b, q9c⟩ := isOf hZ hp8 (E_MANAGEMENT.ext O0.2)
      obtain ⟨_, _, ⟨T9, L9, k9, n9⟩, -, X9, ⟨Lc9, hQ9, l9, y9, z9⟩, st9⟩ := X8.virtualBack hx (y := own_m1) (z := own_m1) hown (mvT hZ (own_w hw 9 rfl)) (mvT hZ (own_w hw 10 rfl)) (notFace_of_selects (args := #[]) (mvT hZ (own_w hw 12 rfl))) (mvT hZ (own_w hw 12 rfl)) (mvT hZ (own_w hw 11 rfl)) (by decide) (backOf (W := 0) (rm_f2 l Z a0 hw []  _ _ _ _ h0 n0 O0 hE) hZ (own_w hw 13 rfl) (own_w hw 5 rfl) (by decide) (by decide)) q9a q9c (g := (mkF m 47 #[.val (.int p0), .val (.int p1), .val (.int (0 : Int32)), .val (.int (0 : Int32)), .val (.int (1 : Int32))] [(.ref a_MANAGEMENT), (.ref a_MANAGEMENT)])) rfl (by rw [hml]; rfl) (Steps.refl _) (argsL := [(.ref a_MANAGEMENT)]) (rest := []) (lenOf pd__Lcom_example_scoped_authority_scopedauthority_Authority__Z rfl) rfl (by show 2 * 0 + _ ≤ _; exact Nat.le_of_eq rfl) (hb hby at_47) (fun _ _ => ⟨rfl, hp8, (by decide : 0 + 0 ≤ _), (by decide : 0 + 0 ≤ _)⟩)
      dsimp only [Pt.U, Pt.locs, Pt.cells, Pt.slots] at X9 l9 y9 z9 st9 hQ9
      subst l9 y9 z9
      obtain ⟨rfl, N9q, hp9⟩ := hQ9
      have N9 := Fr.app N8 N9q
      have k10 : ∀ t, own_At p e below m T9 60 #[.val (.int p0), .val (.int p1), .val (.int (0 : Int32)), .val (.int (0 : Int32)), .val (.int (1 : Int32))] [(.int (1 : Int32))] t → own_En p e below m s₁ #[(.int p0), (.int p1)] maxLocals t := by
        intro t k
        refine k6 t ?_
        refine XS.istoreN X0.here hx rfl (hb hby at_7) rfl (l' := #[.val (.int p0), .val (.int p1), .val (.int (0 : Int32)), .val (.int (0 : Int32)), .unset]) rfl ?_
        show own_At p e below m s₁ 8 #[.val (.int p0), .val (.int p1), .val (.int (0 : Int32)), .val (.int (0 : Int32)), .unset] [] t
        refine XS.iloadN X0.here hx rfl (hb hby at_8) rfl ?_
        show own_At p e below m s₁ 9 #[.val (.int p0), .val (.int p1), .val (.int (0 : Int32)), .val (.int (0 : Int32)), .unset] [(.int (0 : Int32))] t
        refine XS.iloadN X0.here hx rfl (hb hby at_9) rfl ?_
        show own_At p e below m s₁ 10 #[.val (.int p0), .val (.int p1), .val (.int (0 : Int32)), .val (.int (0 : Int32)), .unset] [(.int (0 : Int32)), (.int (0 : Int32))] t
        refine XS.icmpYes X0.here hx rfl (pc0 := 10) (pc' := 32) rfl (hb hby at_10) rfl (teq (by decide : (0 : Int32) = (0 : Int32))).1 (by decide) (by decide) ?_
        show own_At p e below m s₁ 32 #[.val (.int p0), .val (.int p1), .val (.int (0 : Int32)), .val (.int (0 : Int32)), .unset] [] t
        refine XS.iconst X0.here hx rfl (hb hby at_32) ?_
        show own_At p e below m s₁ 33 #[.val (.int p0), .val (.int p1), .val (.int (0 : Int32)), .val (.int (0 : Int32)), .unset] [(.int (1 : Int32))] t
        refine XS.goto X0.here hx rfl (pc0 := 33) (pc' := 37) rfl (hb hby at_33) (by decide) (by decide) ?_
        show own_At p e below m s₁ 37 #[.val (.int p0), .val (.int p1), .val (.int (0 : Int32)), .val (.int (0 : Int32)), .unset] [(.int (1 : Int32))] t
        refine XS.istore X0.here hx rfl (hb hby at_37) rfl (l' := #[.val (.int p0), .val (.int p1), .val (.int (0 : Int32)), .val (.int (0 : Int32)), .val (.int (1 : Int32))]) rfl ?_
        show own_At p e below m s₁ 39 #[.val (.int p0), .val (.int p1), .val (.int (0 : Int32)), .val (.int (0 : Int32)), .val (.int (1 : Int32))] [] t
        refine XS.iloadN X0.here hx rfl (hb hby at_39) rfl ?_
        show own_At p e below m s₁ 40 #[.val (.int p0), .val (.int p1), .val (.int (0 : Int32)), .val (.int (0 : Int32)), .val (.int (1 : Int32))] [(.int (0 : Int32))] t
        refine st7 _ ?_
        show own_At p e below m T7 43 #[.val (.int p0), .val (.int p1), .val (.int (0 : Int32)), .val (.int (0 : Int32)), .val (.int (1 : Int32))] [(.ref a_MANAGEMENT)] t
        refine XS.iloadN X7.here hx rfl (hb hby at_43) rfl ?_
        show own_At p e below m T7 44 #[.val (.int p0), .val (.int p1), .val (.int (0 : Int32)), .val (.int (0 : Int32)), .val (.int (1 : Int32))] [(.int (0 : Int32)), (.ref a_MANAGEMENT)] t
        refine st8 _ ?_
        show own_At p e below m T8 47 #[.val (.int p0), .val (.int p1), .val (.int (0 : Int32)), .val (.int (0 : Int32)), .val (.int (1 : Int32))] [(.ref a_MANAGEMENT), (.ref a_MANAGEMENT)] t
        refine st9.trans ?_
        show own_At p e below m T9 50 #[.val (.int p0), .val (.int p1), .val (.int (0 : Int32)), .val (.int (0 : Int32)), .val (.int (1 : Int32))] [(.int (1 : Int32))] t
        refine XS.iload X9.here hx rfl (hb hby at_50) rfl ?_
        show own_At p e below m T9 52 #[.val (.int p0), .val (.int p1), .val (.int (0 : Int32)), .val (.int (0 : Int32)), .val (.int (1 : Int32))] [(.int (1 : Int32)), (.int (1 : Int32))] t
        refine XS.icmpNo X9.here hx rfl (hb hby at_52) rfl (teq (by decide : (1 : Int32) = (1 : Int32))).2 ?_
        show own_At p e below m T9 55 #[.val (.int p0), .val (.int p1), .val (.int (0 : Int32)), .val (.int (0 : Int32)), .val (.int (1 : Int32))] [] t
        refine XS.iconst X9.here hx rfl (hb hby at_55) ?_
        show own_At p e below m T9 56 #[.val (.int p0), .val (.int p1), .val (.int (0 : Int32)), .val (.int (0 : Int32)), .val (.int (1 : Int32))] [(.int (1 : Int32))] t
        refine XS.goto X9.here hx rfl (pc0 := 56) (pc' := 60) rfl (hb hby at_56) (by decide) (by decide) ?_
        show own_At p e below m T9 60 #[.val (.int p0), .val (.int p1), .val (.int (0 : Int32)), .val (.int (0 : Int32)), .val (.int (1 : Int32))] [(.int (1 : Int32))] t
        exact k
      obtain ⟨fs, hr, hrun, hended, hW, hsame⟩ := X9.leave (v := some (.int (1 : Int32))) (fun h => by rw [Bd.returns] at h; cases h)
      refine hNG ⟨_, _, k10 _ ?_, hrun, hended, _, _, rfl, ?_, ⟨_, rfl⟩, hW, hsame.mono (by decide) (by decide)⟩
      · exact retN X9 hx (t := .boolean) Bd.returns (by simp) (hb hby at_60) hr
      · show Q_law Z p0 p1 a_MANAGEMENT a_GIVE a_OWNERSHIP a_ADMIN h0 n0 _ T9.heap _
        rw [hp9]
        exact ⟨rfl, N9⟩
    · have k11 : ∀ t, own_At p e below m s₁ 7 #[.val (.int p0), .val (.int p1), .val (.int (0 : Int32)), .unset, .unset] [(.int (1 : Int32))] t → own_En p e below m s₁ #[(.int p0), (.int p1)] maxLocals t := by
        intro t k
        refine k4 t ?_
        rw [hs5]
        exact k
      obtain ⟨_, _, ⟨T12, L12, k12, n12⟩, -, X12, ⟨Lc12, hQ12, l12, y12, z12⟩, st12⟩ := Jvm.LawKit.callS X0 hx (y := own_m0) hown (mvT hZ (own_w hw 0 rfl)) (mvT hZ (own_w hw 1 rfl)) (mvT hZ (own_w hw 2 rfl)) (mvT hZ (own_w hw 3 rfl)) (by decide) (backOf (W := 0) (rm_f1 l Z a0 hw []  _ _ _ _ h0 n0 O0 hE) hZ (own_w hw 3 rfl) (own_w hw 2 rfl) (by decide) (by decide)) (g := (mkF m 40 #[.val (.int p0), .val (.int p1), .val (.int (0 : Int32)), .val (.int (1 : Int32)), .val (.int (0 : Int32))] [(.int (0 : Int32))])) rfl (by rw [hml]; rfl) (argsL := [(.int (0 : Int32))]) (rest := []) (lenOf pd__I_Lcom_example_scoped_authority_scopedauthority_Authority_ rfl) rfl (by show 2 * 0 + _ ≤ _; exact Nat.le_of_eq rfl) (hb hby at_40) (fun _ _ => ⟨rfl, e0, (by decide : 0 + 0 ≤ _), (by decide : 0 + 0 ≤ _)⟩)
      dsimp only [Pt.U, Pt.locs, Pt.cells, Pt.slots] at X12 l12 y12 z12 st12 hQ12
      subst l12 y12 z12
      obtain ⟨rfl, N12q, hp12⟩ := hQ12
      have N12 := Fr.app N0 N12q
      obtain ⟨_, _, ⟨T13, L13, k13, n13⟩, -, X13, ⟨Lc13, hQ13, l13, y13, z13⟩, st13⟩ := Jvm.LawKit.callS X12 hx (y := own_m0) hown (mvT hZ (own_w hw 0 rfl)) (mvT hZ (own_w hw 1 rfl)) (mvT hZ (own_w hw 2 rfl)) (mvT hZ (own_w hw 3 rfl)) (by decide) (backOf (W := 1) (rm_f3 l Z a0 hw []  _ _ _ _ h0 n0 O0 hE) hZ (own_w hw 3 rfl) (own_w hw 2 rfl) (by decide) (by decide)) (g := (mkF m 44 #[.val (.int p0), .val (.int p1), .val (.int (0 : Int32)), .val (.int (1 : Int32)), .val (.int (0 : Int32))] [(.int (1 : Int32)), (.ref a_MANAGEMENT)])) rfl (by rw [hml]; rfl) (argsL := [(.int (1 : Int32))]) (rest := [(.ref a_MANAGEMENT)]) (lenOf pd__I_Lcom_example_scoped_authority_scopedauthority_Authority_ rfl) rfl (by show 2 * 0 + _ ≤ _; exact Nat.le_of_eq rfl) (hb hby at_44) (fun _ _ => ⟨rfl, hp12, (by decide : 0 + 0 ≤ _), (by decide : 0 + 0 ≤ _)⟩)
      dsimp only [Pt.U, Pt.locs, Pt.cells, Pt.slots] at X13 l13 y13 z13 st13 hQ13
      subst l13 y13 z13
      obtain ⟨rfl, N13q, hp13⟩ := hQ13
      have N13 := Fr.app N12 N13q
      obtain ⟨cq14, kq14, q14a, q14b, q14c⟩ := isOf hZ hp13 (E_MANAGEMENT.ext O0.2)
      obtain ⟨_, _, ⟨T14, L14, k14, n14⟩, -, X14, ⟨Lc14, hQ14, l14, y14, z14⟩, st14⟩ := X13.virtualBack hx (y := own_m1) (z := own_m1) hown (mvT hZ (own_w hw 9 rfl)) (mvT hZ (own_w hw 10 rfl)) (notFace_of_selects (args := #[]) (mvT hZ (own_w hw 12 rfl))) (mvT hZ (own_w hw 12 rfl)) (mvT hZ (own_w hw 11 rfl)) (by decide) (backOf (W := 0) (rm_f4 l Z a0 hw []  _ _ _ _ h0 n0 O0 hE) hZ (own_w hw 13 rfl) (own_w hw 5 rfl) (by decide) (by decide)) q14a q14c (g := (mkF m 47 #[.val (.int p0), .val (.int p1), .val (.int (0 : Int32)), .val (.int (1 : Int32)), .val (.int (0 : Int32))] [(.ref a_OWNERSHIP), (.ref a_MANAGEMENT)])) rfl (by rw [hml]; rfl) (Steps.refl _) (argsL := [(.ref a_OWNERSHIP)]) (rest := []) (lenOf pd__Lcom_example_scoped_authority_scopedauthority_Authority__Z rfl) rfl (by show 2 * 0 + _ ≤ _; exact Nat.le_of_eq rfl) (hb hby at_47) (fun _ _ => ⟨rfl, hp13, (by decide : 0 + 0 ≤ _), (by decide : 0 + 0 ≤ _)⟩)
      dsimp only [Pt.U, Pt.locs, Pt.cells, Pt.slots] at X14 l14 y14 z14 st14 hQ14
      subst l14 y14 z14
      obtain ⟨rfl, N14q, hp14⟩ := hQ14
      have N14 := Fr.app N13 N14q
      have k15 : ∀ t, own_At p e below m T14 60 #[.val (.int p0), .val (.int p1), .val (.int (0 : Int32)), .val (.int (1 : Int32)), .val (.int (0 : Int32))] [(.int (1 : Int32))] t → own_En p e below m s₁ #[(.int p0), (.int p1)] maxLocals t := by
        intro t k
        refine k11 t ?_
        refine XS.istoreN X0.here hx rfl (hb hby at_7) rfl (l' := #[.val (.int p0), .val (.int p1), .val (.int (0 : Int32)), .val (.int (1 : Int32)), .unset]) rfl ?_
        show own_At p e below m s₁ 8 #[.val (.int p0), .val (.int p1), .val (.int (0 : Int32)), .val (.int (1 : Int32)), .unset] [] t
        refine XS.iloadN X0.here hx rfl (hb hby at_8) rfl ?_
        show own_At p e below m s₁ 9 #[.val (.int p0), .val (.int p1), .val (.int (0 : Int32)), .val (.int (1 : Int32)), .unset] [(.int (0 : Int32))] t
        refine XS.iloadN X0.here hx rfl (hb hby at_9) rfl ?_
        show own_At p e below m s₁ 10 #[.val (.int p0), .val (.int p1), .val (.int (0 : Int32)), .val (.int (1 : Int32)), .unset] [(.int (1 : Int32)), (.int (0 : Int32))] t
        refine XS.icmpNo X0.here hx rfl (hb hby at_10) rfl (feq (by decide : ¬ ((0 : Int32) = (1 : Int32)))).1 ?_
        show own_At p e below m s₁ 13 #[.val (.int p0), .val (.int p1), .val (.int (0 : Int32)), .val (.int (1 : Int32)), .unset] [] t
        refine XS.iloadN X0.here hx rfl (hb hby at_13) rfl ?_
        show own_At p e below m s₁ 14 #[.val (.int p0), .val (.int p1), .val (.int (0 : Int32)), .val (.int (1 : Int32)), .unset] [(.int (0 : Int32))] t
        refine XS.ifNo X0.here hx rfl (hb hby at_14) rfl ((if0 _ _).trans (teq (by decide : (0 : Int32) = (0 : Int32))).2) ?_
        show own_At p e below m s₁ 17 #[.val (.int p0), .val (.int p1), .val (.int (0 : Int32)), .val (.int (1 : Int32)), .unset] [] t
        refine XS.iloadN X0.here hx rfl (hb hby at_17) rfl ?_
        show own_At p e below m s₁ 18 #[.val (.int p0), .val (.int p1), .val (.int (0 : Int32)), .val (.int (1 : Int32)), .unset] [(.int (1 : Int32))] t
        refine XS.iconst X0.here hx rfl (hb hby at_18) ?_
        show own_At p e below m s₁ 19 #[.val (.int p0), .val (.int p1), .val (.int (0 : Int32)), .val (.int (1 : Int32)), .unset] [(.int (2 : Int32)), (.int (1 : Int32))] t
        refine XS.icmpNo X0.here hx rfl (hb hby at_19) rfl (feq (by decide : ¬ ((1 : Int32) = (2 : Int32)))).1 ?_
        show own_At p e below m s₁ 22 #[.val (.int p0), .val (.int p1), .val (.int (0 : Int32)), .val (.int (1 : Int32)), .unset] [] t
        refine XS.iloadN X0.here hx rfl (hb hby at_22) rfl ?_
        show own_At p e below m s₁ 23 #[.val (.int p0), .val (.int p1), .val (.int (0 : Int32)), .val (.int (1 : Int32)), .unset] [(.int (0 : Int32))] t
        refine XS.iconst X0.here hx rfl (hb hby at_23) ?_
        show own_At p e below m s₁ 24 #[.val (.int p0), .val (.int p1), .val (.int (0 : Int32)), .val (.int (1 : Int32)), .unset] [(.int (1 : Int32)), (.int (0 : Int32))] t
        refine XS.icmpYes X0.here hx rfl (pc0 := 24) (pc' := 36) rfl (hb hby at_24) rfl (feq (by decide : ¬ ((0 : Int32) = (1 : Int32)))).2 (by decide) (by decide) ?_
        show own_At p e below m s₁ 36 #[.val (.int p0), .val (.int p1), .val (.int (0 : Int32)), .val (.int (1 : Int32)), .unset] [] t
        refine XS.iconst X0.here hx rfl (hb hby at_36) ?_
        show own_At p e below m s₁ 37 #[.val (.int p0), .val (.int p1), .val (.int (0 : Int32)), .val (.int (1 : Int32)), .unset] [(.int (0 : Int32))] t
        refine XS.istore X0.here hx rfl (hb hby at_37) rfl (l' := #[.val (.int p0), .val (.int p1), .val (.int (0 : Int32)), .val (.int (1 : Int32)), .val (.int (0 : Int32))]) rfl ?_
        show own_At p e below m s₁ 39 #[.val (.int p0), .val (.int p1), .val (.int (0 : Int32)), .val (.int (1 : Int32)), .val (.int (0 : Int32))] [] t
        refine XS.iloadN X0.here hx rfl (hb hby at_39) rfl ?_
        show own_At p e below m s₁ 40 #[.val (.int p0), .val (.int p1), .val (.int (0 : Int32)), .val (.int (1 : Int32)), .val (.int (0 : Int32))] [(.int (0 : Int32))] t
        refine st12 _ ?_
        show own_At p e below m T12 43 #[.val (.int p0), .val (.int p1), .val (.int (0 : Int32)), .val (.int (1 : Int32)), .val (.int (0 : Int32))] [(.ref a_MANAGEMENT)] t
        refine XS.iloadN X12.here hx rfl (hb hby at_43) rfl ?_
        show own_At p e below m T12 44 #[.val (.int p0), .val (.int p1), .val (.int (0 : Int32)), .val (.int (1 : Int32)), .val (.int (0 : Int32))] [(.int (1 : Int32)), (.ref a_MANAGEMENT)] t
        refine st13 _ ?_
        show own_At p e below m T13 47 #[.val (.int p0), .val (.int p1), .val (.int (0 : Int32)), .val (.int (1 : Int32)), .val (.int (0 : Int32))] [(.ref a_OWNERSHIP), (.ref a_MANAGEMENT)] t
        refine st14.trans ?_
        show own_At p e below m T14 50 #[.val (.int p0), .val (.int p1), .val (.int (0 : Int32)), .val (.int (1 : Int32)), .val (.int (0 : Int32))] [(.int (0 : Int32))] t
        refine XS.iload X14.here hx rfl (hb hby at_50) rfl ?_
        show own_At p e below m T14 52 #[.val (.int p0), .val (.int p1), .val (.int (0 : Int32)), .val (.int (1 : Int32)), .val (.int (0 : Int32))] [(.int (0 : Int32)), (.int (0 : Int32))] t
        refine XS.icmpNo X14.here hx rfl (hb hby at_52) rfl (teq (by decide : (0 : Int32) = (0 : Int32))).2 ?_
        show own_At p e below m T14 55 #[.val (.int p0), .val (.int p1), .val (.int (0 : Int32)), .val (.int (1 : Int32)), .val (.int (0 : Int32))] [] t
        refine XS.iconst X14.here hx rfl (hb hby at_55) ?_
        show own_At p e below m T14 56 #[.val (.int p0), .val (.int p1), .val (.int (0 : Int32)), .val (.int (1 : Int32)), .val (.int (0 : Int32))] [(.int (1 : Int32))] t
        refine XS.goto X14.here hx rfl (pc0 := 56) (pc' := 60) rfl (hb hby at_56) (by decide) (by decide) ?_
        show own_At p e below m T14 60 #[.val (.int p0), .val (.int p1), .val (.int (0 : Int32)), .val (.int (1 : Int32)), .val (.int (0 : Int32))] [(.int (1 : Int32))] t
        exact k
      obtain ⟨fs, hr, hrun, hended, hW, hsame⟩ := X14.leave (v := some (.int (1 : Int32))) (fun h => by rw [Bd.returns] at h; cases h)
      refine hNG ⟨_, _, k15 _ ?_, hrun, hended, _, _, rfl, ?_, ⟨_, rfl⟩, hW, hsame.mono (by decide) (by decide)⟩
      · exact retN X14 hx (t := .boolean) Bd.returns (by simp) (hb hby at_60) hr
      · show Q_law Z p0 p1 a_MANAGEMENT a_GIVE a_OWNERSHIP a_ADMIN h0 n0 _ T14.heap _
        rw [hp14]
        exact ⟨rfl, N14⟩
    · have k16 : ∀ t, own_At p e below m s₁ 7 #[.val (.int p0), .val (.int p1), .val (.int (0 : Int32)), .unset, .unset] [(.int (2 : Int32))] t → own_En p e below m s₁ #[(.int p0), (.int p1)] maxLocals t := by
        intro t k
        refine k4 t ?_
        rw [hs5]
        exact k
      obtain ⟨_, _, ⟨T17, L17, k17, n17⟩, -, X17, ⟨Lc17, hQ17, l17, y17, z17⟩, st17⟩ := Jvm.LawKit.callS X0 hx (y := own_m0) hown (mvT hZ (own_w hw 0 rfl)) (mvT hZ (own_w hw 1 rfl)) (mvT hZ (own_w hw 2 rfl)) (mvT hZ (own_w hw 3 rfl)) (by decide) (backOf (W := 0) (rm_f1 l Z a0 hw []  _ _ _ _ h0 n0 O0 hE) hZ (own_w hw 3 rfl) (own_w hw 2 rfl) (by decide) (by decide)) (g := (mkF m 40 #[.val (.int p0), .val (.int p1), .val (.int (0 : Int32)), .val (.int (2 : Int32)), .val (.int (1 : Int32))] [(.int (0 : Int32))])) rfl (by rw [hml]; rfl) (argsL := [(.int (0 : Int32))]) (rest := []) (lenOf pd__I_Lcom_example_scoped_authority_scopedauthority_Authority_ rfl) rfl (by show 2 * 0 + _ ≤ _; exact Nat.le_of_eq rfl) (hb hby at_40) (fun _ _ => ⟨rfl, e0, (by decide : 0 + 0 ≤ _), (by decide : 0 + 0 ≤ _)⟩)
      dsimp only [Pt.U, Pt.locs, Pt.cells, Pt.slots] at X17 l17 y17 z17 st17 hQ17
      subst l17 y17 z17
      obtain ⟨rfl, N17q, hp17⟩ := hQ17
      have N17 := Fr.app N0 N17q
      obtain ⟨_, _, ⟨T18, L18, k18, n18⟩, -, X18, ⟨Lc18, hQ18, l18, y18, z18⟩, st18⟩ := Jvm.LawKit.callS X17 hx (y := own_m0) hown (mvT hZ (own_w hw 0 rfl)) (mvT hZ (own_w hw 1 rfl)) (mvT hZ (own_w hw 2 rfl)) (mvT hZ (own_w hw 3 rfl)) (by decide) (backOf (W := 1) (rm_f5 l Z a0 hw []  _ _ _ _ h0 n0 O0 hE) hZ (own_w hw 3 rfl) (own_w hw 2 rfl) (by decide) (by decide)) (g := (mkF m 44 #[.val (.int p0), .val (.int p1), .val (.int (0 : Int32)), .val (.int (2 : Int32)), .val (.int (1 : Int32))] [(.int (2 : Int32)), (.ref a_MANAGEMENT)])) rfl (by rw [hml]; rfl) (argsL := [(.int (2 : Int32))]) (rest := [(.ref a_MANAGEMENT)]) (lenOf pd__I_Lcom_example_scoped_authority_scopedauthority_Authority_ rfl) rfl (by show 2 * 0 + _ ≤ _; exact Nat.le_of_eq rfl) (hb hby at_44) (fun _ _ => ⟨rfl, hp17, (by decide : 0 + 0 ≤ _), (by decide : 0 + 0 ≤ _)⟩)
      dsimp only [Pt.U, Pt.locs, Pt.cells, Pt.slots] at X18 l18 y18 z18 st18 hQ18
      subst l18 y18 z18
      obtain ⟨rfl, N18q, hp18⟩ := hQ18
      have N18 := Fr.app N17 N18q
      obtain ⟨cq19, kq19, q19a, q19b, q19c⟩ := isOf hZ hp18 (E_MANAGEMENT.ext O0.2)
      obtain ⟨_, _, ⟨T19, L19, k19, n19⟩, -, X19, ⟨Lc19, hQ19, l19, y19, z19⟩, st19⟩ := X18.virtualBack hx (y := own_m1) (z := own_m1) hown (mvT hZ (own_w hw 9 rfl)) (mvT hZ (own_w hw 10 rfl)) (notFace_of_selects (args := #[]) (mvT hZ (own_w hw 12 rfl))) (mvT hZ (own_w hw 12 rfl)) (mvT hZ (own_w hw 11 rfl)) (by decide) (backOf (W := 0) (rm_f6 l Z a0 hw []  _ _ _ _ h0 n0 O0 hE) hZ (own_w hw 13 rfl) (own_w hw 5 rfl) (by decide) (by decide)) q19a q19c (g := (mkF m 47 #[.val (.int p0), .val (.int p1), .val (.int (0 : Int32)), .val (.int (2 : Int32)), .val (.int (1 : Int32))] [(.ref a_ADMIN), (.ref a_MANAGEMENT)])) rfl (by rw [hml]; rfl) (Steps.refl _) (argsL := [(.ref a_ADMIN)]) (rest := []) (lenOf pd__Lcom_example_scoped_authority_scopedauthority_Authority__Z rfl) rfl (by show 2 * 0 + _ ≤ _; exact Nat.le_of_eq rfl) (hb hby at_47) (fun _ _ => ⟨rfl, hp18, (by decide : 0 + 0 ≤ _), (by decide : 0 + 0 ≤ _)⟩)
      dsimp only [Pt.U, Pt.locs, Pt.cells, Pt.slots] at X19 l19 y19 z19 st19 hQ19
      subst l19 y19 z19
      obtain ⟨rfl, N19q, hp19⟩ := hQ19
      have N19 := Fr.app N18 N19q
      have k20 : ∀ t, own_At p e below m T19 60 #[.val (.int p0), .val (.int p1), .val (.int (0 : Int32)), .val (.int (2 : Int32)), .val (.int (1 : Int32))] [(.int (1 : Int32))] t → own_En p e below m s₁ #[(.int p0), (.int p1)] maxLocals t := by
        intro t k
        refine k16 t ?_
        refine XS.istoreN X0.here hx rfl (hb hby at_7) rfl (l' := #[.val (.int p0), .val (.int p1), .val (.int (0 : Int32)), .val (.int (2 : Int32)), .unset]) rfl ?_
        show own_At p e below m s₁ 8 #[.val (.int p0), .val (.int p1), .val (.int (0 : Int32)), .val (.int (2 : Int32)), .unset] [] t
        refine XS.iloadN X0.here hx rfl (hb hby at_8) rfl ?_
        show own_At p e below m s₁ 9 #[.val (.int p0), .val (.int p1), .val (.int (0 : Int32)), .val (.int (2 : Int32)), .unset] [(.int (0 : Int32))] t
        refine XS.iloadN X0.here hx rfl (hb hby at_9) rfl ?_
        show own_At p e below m s₁ 10 #[.val (.int p0), .val (.int p1), .val (.int (0 : Int32)), .val (.int (2 : Int32)), .unset] [(.int (2 : Int32)), (.int (0 : Int32))] t
        refine XS.icmpNo X0.here hx rfl (hb hby at_10) rfl (feq (by decide : ¬ ((0 : Int32) = (2 : Int32)))).1 ?_
        show own_At p e below m s₁ 13 #[.val (.int p0), .val (.int p1), .val (.int (0 : Int32)), .val (.int (2 : Int32)), .unset] [] t
        refine XS.iloadN X0.here hx rfl (hb hby at_13) rfl ?_
        show own_At p e below m s₁ 14 #[.val (.int p0), .val (.int p1), .val (.int (0 : Int32)), .val (.int (2 : Int32)), .unset] [(.int (0 : Int32))] t
        refine XS.ifNo X0.here hx rfl (hb hby at_14) rfl ((if0 _ _).trans (teq (by decide : (0 : Int32) = (0 : Int32))).2) ?_
        show own_At p e below m s₁ 17 #[.val (.int p0), .val (.int p1), .val (.int (0 : Int32)), .val (.int (2 : Int32)), .unset] [] t
        refine XS.iloadN X0.here hx rfl (hb hby at_17) rfl ?_
        show own_At p e below m s₁ 18 #[.val (.int p0), .val (.int p1), .val (.int (0 : Int32)), .val (.int (2 : Int32)), .unset] [(.int (2 : Int32))] t
        refine XS.iconst X0.here hx rfl (hb hby at_18) ?_
        show own_At p e below m s₁ 19 #[.val (.int p0), .val (.int p1), .val (.int (0 : Int32)), .val (.int (2 : Int32)), .unset] [(.int (2 : Int32)), (.int (2 : Int32))] t
        refine XS.icmpYes X0.here hx rfl (pc0 := 19) (pc' := 32) rfl (hb hby at_19) rfl (teq (by decide : (2 : Int32) = (2 : Int32))).1 (by decide) (by decide) ?_
        show own_At p e below m s₁ 32 #[.val (.int p0), .val (.int p1), .val (.int (0 : Int32)), .val (.int (2 : Int32)), .unset] [] t
        refine XS.iconst X0.here hx rfl (hb hby at_32) ?_
        show own_At p e below m s₁ 33 #[.val (.int p0), .val (.int p1), .val (.int (0 : Int32)), .val (.int (2 : Int32)), .unset] [(.int (1 : Int32))] t
        refine XS.goto X0.here hx rfl (pc0 := 33) (pc' := 37) rfl (hb hby at_33) (by decide) (by decide) ?_
        show own_At p e below m s₁ 37 #[.val (.int p0), .val (.int p1), .val (.int (0 : Int32)), .val (.int (2 : Int32)), .unset] [(.int (1 : Int32))] t
        refine XS.istore X0.here hx rfl (hb hby at_37) rfl (l' := #[.val (.int p0), .val (.int p1), .val (.int (0 : Int32)), .val (.int (2 : Int32)), .val (.int (1 : Int32))]) rfl ?_
        show own_At p e below m s₁ 39 #[.val (.int p0), .val (.int p1), .val (.int (0 : Int32)), .val (.int (2 : Int32)), .val (.int (1 : Int32))] [] t
        refine XS.iloadN X0.here hx rfl (hb hby at_39) rfl ?_
        show own_At p e below m s₁ 40 #[.val (.int p0), .val (.int p1), .val (.int (0 : Int32)), .val (.int (2 : Int32)), .val (.int (1 : Int32))] [(.int (0 : Int32))] t
        refine st17 _ ?_
        show own_At p e below m T17 43 #[.val (.int p0), .val (.int p1), .val (.int (0 : Int32)), .val (.int (2 : Int32)), .val (.int (1 : Int32))] [(.ref a_MANAGEMENT)] t
        refine XS.iloadN X17.here hx rfl (hb hby at_43) rfl ?_
        show own_At p e below m T17 44 #[.val (.int p0), .val (.int p1), .val (.int (0 : Int32)), .val (.int (2 : Int32)), .val (.int (1 : Int32))] [(.int (2 : Int32)), (.ref a_MANAGEMENT)] t
        refine st18 _ ?_
        show own_At p e below m T18 47 #[.val (.int p0), .val (.int p1), .val (.int (0 : Int32)), .val (.int (2 : Int32)), .val (.int (1 : Int32))] [(.ref a_ADMIN), (.ref a_MANAGEMENT)] t
        refine st19.trans ?_
        show own_At p e below m T19 50 #[.val (.int p0), .val (.int p1), .val (.int (0 : Int32)), .val (.int (2 : Int32)), .val (.int (1 : Int32))] [(.int (1 : Int32))] t
        refine XS.iload X19.here hx rfl (hb hby at_50) rfl ?_
        show own_At p e below m T19 52 #[.val (.int p0), .val (.int p1), .val (.int (0 : Int32)), .val (.int (2 : Int32)), .val (.int (1 : Int32))] [(.int (1 : Int32)), (.int (1 : Int32))] t
        refine XS.icmpNo X19.here hx rfl (hb hby at_52) rfl (teq (by decide : (1 : Int32) = (1 : Int32))).2 ?_
        show own_At p e below m T19 55 #[.val (.int p0), .val (.int p1), .val (.int (0 : Int32)), .val (.int (2 : Int32)), .val (.int (1 : Int32))] [] t
        refine XS.iconst X19.here hx rfl (hb hby at_55) ?_
        show own_At p e below m T19 56 #[.val (.int p0), .val (.int p1), .val (.int (0 : Int32)), .val (.int (2 : Int32)), .val (.int (1 : Int32))] [(.int (1 : Int32))] t
        refine XS.goto X19.here hx rfl (pc0 := 56) (pc' := 60) rfl (hb hby at_56) (by decide) (by decide) ?_
        show own_At p e below m T19 60 #[.val (.int p0), .val (.int p1), .val (.int (0 : Int32)), .val (.int (2 : Int32)), .val (.int (1 : Int32))] [(.int (1 : Int32))] t
        exact k
      obtain ⟨fs, hr, hrun, hended, hW, hsame⟩ := X19.leave (v := some (.int (1 : Int32))) (fun h => by rw [Bd.returns] at h; cases h)
      refine hNG ⟨_, _, k20 _ ?_, hrun, hended, _, _, rfl, ?_, ⟨_, rfl⟩, hW, hsame.mono (by decide) (by decide)⟩
      · exact retN X19 hx (t := .boolean) Bd.returns (by simp) (hb hby at_60) hr
      · show Q_law Z p0 p1 a_MANAGEMENT a_GIVE a_OWNERSHIP a_ADMIN h0 n0 _ T19.heap _
        rw [hp19]
        exact ⟨rfl, N19⟩
    · have k21 : ∀ t, own_At p e below m s₁ 7 #[.val (.int p0), .val (.int p1), .val (.int (0 : Int32)), .unset, .unset] [(.int (3 : Int32))] t → own_En p e below m s₁ #[(.int p0), (.int p1)] maxLocals t := by
        intro t k
        refine k4 t ?_
        rw [hs5]
        exact k
      obtain ⟨_, _, ⟨T22, L22, k22, n22⟩, -, X22, ⟨Lc22, hQ22, l22, y22, z22⟩, st22⟩ := Jvm.LawKit.callS X0 hx (y := own_m0) hown (mvT hZ (own_w hw 0 rfl)) (mvT hZ (own_w hw 1 rfl)) (mvT hZ (own_w hw 2 rfl)) (mvT hZ (own_w hw 3 rfl)) (by decide) (backOf (W := 0) (rm_f1 l Z a0 hw []  _ _ _ _ h0 n0 O0 hE) hZ (own_w hw 3 rfl) (own_w hw 2 rfl) (by decide) (by decide)) (g := (mkF m 40 #[.val (.int p0), .val (.int p1), .val (.int (0 : Int32)), .val (.int (3 : Int32)), .val (.int (0 : Int32))] [(.int (0 : Int32))])) rfl (by rw [hml]; rfl) (argsL := [(.int (0 : Int32))]) (rest := []) (lenOf pd__I_Lcom_example_scoped_authority_scopedauthority_Authority_ rfl) rfl (by show 2 * 0 + _ ≤ _; exact Nat.le_of_eq rfl) (hb hby at_40) (fun _ _ => ⟨rfl, e0, (by decide : 0 + 0 ≤ _), (by decide : 0 + 0 ≤ _)⟩)
      dsimp only [Pt.U, Pt.locs, Pt.cells, Pt.slots] at X22 l22 y22 z22 st22 hQ22
      subst l22 y22 z22
      obtain ⟨rfl, N22q, hp22⟩ := hQ22
      have N22 := Fr.app N0 N22q
      obtain ⟨_, _, ⟨T23, L23, k23, n23⟩, -, X23, ⟨Lc23, hQ23, l23, y23, z23⟩, st23⟩ := Jvm.LawKit.callS X22 hx (y := own_m0) hown (mvT hZ (own_w hw 0 rfl)) (mvT hZ (own_w hw 1 rfl)) (mvT hZ (own_w hw 2 rfl)) (mvT hZ (own_w hw 3 rfl)) (by decide) (backOf (W := 1) (rm_f7 l Z a0 hw []  _ _ _ _ h0 n0 O0 hE) hZ (own_w hw 3 rfl) (own_w hw 2 rfl) (by decide) (by decide)) (g := (mkF m 44 #[.val (.int p0), .val (.int p1), .val (.int (0 : Int32)), .val (.int (3 : Int32)), .val (.int (0 : Int32))] [(.int (3 : Int32)), (.ref a_MANAGEMENT)])) rfl (by rw [hml]; rfl) (argsL := [(.int (3 : Int32))]) (rest := [(.ref a_MANAGEMENT)]) (lenOf pd__I_Lcom_example_scoped_authority_scopedauthority_Authority_ rfl) rfl (by show 2 * 0 + _ ≤ _; exact Nat.le_of_eq rfl) (hb hby at_44) (fun _ _ => ⟨rfl, hp22, (by decide : 0 + 0 ≤ _), (by decide : 0 + 0 ≤ _)⟩)
      dsimp only [Pt.U, Pt.locs, Pt.cells, Pt.slots] at X23 l23 y23 z23 st23 hQ23
      subst l23 y23 z23
      obtain ⟨rfl, N23q, hp23⟩ := hQ23
      have N23 := Fr.app N22 N23q
      obtain ⟨cq24, kq24, q24a, q24b, q24c⟩ := isOf hZ hp23 (E_MANAGEMENT.ext O0.2)
      obtain ⟨_, _, ⟨T24, L24, k24, n24⟩, -, X24, ⟨Lc24, hQ24, l24, y24, z24⟩, st24⟩ := X23.virtualBack hx (y := own_m1) (z := own_m1) hown (mvT hZ (own_w hw 9 rfl)) (mvT hZ (own_w hw 10 rfl)) (notFace_of_selects (args := #[]) (mvT hZ (own_w hw 12 rfl))) (mvT hZ (own_w hw 12 rfl)) (mvT hZ (own_w hw 11 rfl)) (by decide) (backOf (W := 0) (rm_f8 l Z a0 hw []  _ _ _ _ h0 n0 O0 hE) hZ (own_w hw 13 rfl) (own_w hw 5 rfl) (by decide) (by decide)) q24a q24c (g := (mkF m 47 #[.val (.int p0), .val (.int p1), .val (.int (0 : Int32)), .val (.int (3 : Int32)), .val (.int (0 : Int32))] [(.ref a_GIVE), (.ref a_MANAGEMENT)])) rfl (by rw [hml]; rfl) (Steps.refl _) (argsL := [(.ref a_GIVE)]) (rest := []) (lenOf pd__Lcom_example_scoped_authority_scopedauthority_Authority__Z rfl) rfl (by show 2 * 0 + _ ≤ _; exact Nat.le_of_eq rfl) (hb hby at_47) (fun _ _ => ⟨rfl, hp23, (by decide : 0 + 0 ≤ _), (by decide : 0 + 0 ≤ _)⟩)
      dsimp only [Pt.U, Pt.locs, Pt.cells, Pt.slots] at X24 l24 y24 z24 st24 hQ24
      subst l24 y24 z24
      obtain ⟨rfl, N24q, hp24⟩ := hQ24
      have N24 := Fr.app N23 N24q
      have k25 : ∀ t, own_At p e below m T24 60 #[.val (.int p0), .val (.int p1), .val (.int (0 : Int32)), .val (.int (3 : Int32)), .val (.int (0 : Int32))] [(.int (1 : Int32))] t → own_En p e below m s₁ #[(.int p0), (.int p1)] maxLocals t := by
        intro t k
        refine k21 t ?_
        refine XS.istoreN X0.here hx rfl (hb hby at_7) rfl (l' := #[.val (.int p0), .val (.int p1), .val (.int (0 : Int32)), .val (.int (3 : Int32)), .unset]) rfl ?_
        show own_At p e below m s₁ 8 #[.val (.int p0), .val (.int p1), .val (.int (0 : Int32)), .val (.int (3 : Int32)), .unset] [] t
        refine XS.iloadN X0.here hx rfl (hb hby at_8) rfl ?_
        show own_At p e below m s₁ 9 #[.val (.int p0), .val (.int p1), .val (.int (0 : Int32)), .val (.int (3 : Int32)), .unset] [(.int (0 : Int32))] t
        refine XS.iloadN X0.here hx rfl (hb hby at_9) rfl ?_
        show own_At p e below m s₁ 10 #[.val (.int p0), .val (.int p1), .val (.int (0 : Int32)), .val (.int (3 : Int32)), .unset] [(.int (3 : Int32)), (.int (0 : Int32))] t
        refine XS.icmpNo X0.here hx rfl (hb hby at_10) rfl (feq (by decide : ¬ ((0 : Int32) = (3 : Int32)))).1 ?_
        show own_At p e below m s₁ 13 #[.val (.int p0), .val (.int p1), .val (.int (0 : Int32)), .val (.int (3 : Int32)), .unset] [] t
        refine XS.iloadN X0.here hx rfl (hb hby at_13) rfl ?_
        show own_At p e below m s₁ 14 #[.val (.int p0), .val (.int p1), .val (.int (0 : Int32)), .val (.int (3 : Int32)), .unset] [(.int (0 : Int32))] t
        refine XS.ifNo X0.here hx rfl (hb hby at_14) rfl ((if0 _ _).trans (teq (by decide : (0 : Int32) = (0 : Int32))).2) ?_
        show own_At p e below m s₁ 17 #[.val (.int p0), .val (.int p1), .val (.int (0 : Int32)), .val (.int (3 : Int32)), .unset] [] t
        refine XS.iloadN X0.here hx rfl (hb hby at_17) rfl ?_
        show own_At p e below m s₁ 18 #[.val (.int p0), .val (.int p1), .val (.int (0 : Int32)), .val (.int (3 : Int32)), .unset] [(.int (3 : Int32))] t
        refine XS.iconst X0.here hx rfl (hb hby at_18) ?_
        show own_At p e below m s₁ 19 #[.val (.int p0), .val (.int p1), .val (.int (0 : Int32)), .val (.int (3 : Int32)), .unset] [(.int (2 : Int32)), (.int (3 : Int32))] t
        refine XS.icmpNo X0.here hx rfl (hb hby at_19) rfl (feq (by decide : ¬ ((3 : Int32) = (2 : Int32)))).1 ?_
        show own_At p e below m s₁ 22 #[.val (.int p0), .val (.int p1), .val (.int (0 : Int32)), .val (.int (3 : Int32)), .unset] [] t
        refine XS.iloadN X0.here hx rfl (hb hby at_22) rfl ?_
        show own_At p e below m s₁ 23 #[.val (.int p0), .val (.int p1), .val (.int (0 : Int32)), .val (.int (3 : Int32)), .unset] [(.int (0 : Int32))] t
        refine XS.iconst X0.here hx rfl (hb hby at_23) ?_
        show own_At p e below m s₁ 24 #[.val (.int p0), .val (.int p1), .val (.int (0 : Int32)), .val (.int (3 : Int32)), .unset] [(.int (1 : Int32)), (.int (0 : Int32))] t
        refine XS.icmpYes X0.here hx rfl (pc0 := 24) (pc' := 36) rfl (hb hby at_24) rfl (feq (by decide : ¬ ((0 : Int32) = (1 : Int32)))).2 (by decide) (by decide) ?_
        show own_At p e below m s₁ 36 #[.val (.int p0), .val (.int p1), .val (.int (0 : Int32)), .val (.int (3 : Int32)), .unset] [] t
        refine XS.iconst X0.here hx rfl (hb hby at_36) ?_
        show own_At p e below m s₁ 37 #[.val (.int p0), .val (.int p1), .val (.int (0 : Int32)), .val (.int (3 : Int32)), .unset] [(.int (0 : Int32))] t
        refine XS.istore X0.here hx rfl (hb hby at_37) rfl (l' := #[.val (.int p0), .val (.int p1), .val (.int (0 : Int32)), .val (.int (3 : Int32)), .val (.int (0 : Int32))]) rfl ?_
        show own_At p e below m s₁ 39 #[.val (.int p0), .val (.int p1), .val (.int (0 : Int32)), .val (.int (3 : Int32)), .val (.int (0 : Int32))] [] t
        refine XS.iloadN X0.here hx rfl (hb hby at_39) rfl ?_
        show own_At p e below m s₁ 40 #[.val (.int p0), .val (.int p1), .val (.int (0 : Int32)), .val (.int (3 : Int32)), .val (.int (0 : Int32))] [(.int (0 : Int32))] t
        refine st22 _ ?_
        show own_At p e below m T22 43 #[.val (.int p0), .val (.int p1), .val (.int (0 : Int32)), .val (.int (3 : Int32)), .val (.int (0 : Int32))] [(.ref a_MANAGEMENT)] t
        refine XS.iloadN X22.here hx rfl (hb hby at_43) rfl ?_
        show own_At p e below m T22 44 #[.val (.int p0), .val (.int p1), .val (.int (0 : Int32)), .val (.int (3 : Int32)), .val (.int (0 : Int32))] [(.int (3 : Int32)), (.ref a_MANAGEMENT)] t
        refine st23 _ ?_
        show own_At p e below m T23 47 #[.val (.int p0), .val (.int p1), .val (.int (0 : Int32)), .val (.int (3 : Int32)), .val (.int (0 : Int32))] [(.ref a_GIVE), (.ref a_MANAGEMENT)] t
        refine st24.trans ?_
        show own_At p e below m T24 50 #[.val (.int p0), .val (.int p1), .val (.int (0 : Int32)), .val (.int (3 : Int32)), .val (.int (0 : Int32))] [(.int (0 : Int32))] t
        refine XS.iload X24.here hx rfl (hb hby at_50) rfl ?_
        show own_At p e below m T24 52 #[.val (.int p0), .val (.int p1), .val (.int (0 : Int32)), .val (.int (3 : Int32)), .val (.int (0 : Int32))] [(.int (0 : Int32)), (.int (0 : Int32))] t
        refine XS.icmpNo X24.here hx rfl (hb hby at_52) rfl (teq (by decide : (0 : Int32) = (0 : Int32))).2 ?_
        show own_At p e below m T24 55 #[.val (.int p0), .val (.int p1), .val (.int (0 : Int32)), .val (.int (3 : Int32)), .val (.int (0 : Int32))] [] t
        refine XS.iconst X24.here hx rfl (hb hby at_55) ?_
        show own_At p e below m T24 56 #[.val (.int p0), .val (.int p1), .val (.int (0 : Int32)), .val (.int (3 : Int32)), .val (.int (0 : Int32))] [(.int (1 : Int32))] t
        refine XS.goto X24.here hx rfl (pc0 := 56) (pc' := 60) rfl (hb hby at_56) (by decide) (by decide) ?_
        show own_At p e below m T24 60 #[.val (.int p0), .val (.int p1), .val (.int (0 : Int32)), .val (.int (3 : Int32)), .val (.int (0 : Int32))] [(.int (1 : Int32))] t
        exact k
      obtain ⟨fs, hr, hrun, hended, hW, hsame⟩ := X24.leave (v := some (.int (1 : Int32))) (fun h => by rw [Bd.returns] at h; cases h)
      refine hNG ⟨_, _, k25 _ ?_, hrun, hended, _, _, rfl, ?_, ⟨_, rfl⟩, hW, hsame.mono (by decide) (by decide)⟩
      · exact retN X24 hx (t := .boolean) Bd.returns (by simp) (hb hby at_60) hr
      · show Q_law Z p0 p1 a_MANAGEMENT a_GIVE a_OWNERSHIP a_ADMIN h0 n0 _ T24.heap _
        rw [hp24]
        exact ⟨rfl, N24⟩
  · have k26 : ∀ t, own_At p e below m s₁ 3 #[.val (.int p0), .val (.int p1), .unset, .unset, .unset] [(.int (1 : Int32))] t → own_En p e below m s₁ #[(.int p0), (.int p1)] maxLocals t := by
      intro t k
      refine k1 t ?_
      rw [hs2]
      exact k
    have k27 : ∀ t, own_At p e below m s₁ 7 #[.val (.int p0), .val (.int p1), .val (.int (1 : Int32)), .unset, .unset] [(.int (p1 &&& (3 : Int32)))] t → own_En p e below m s₁ #[(.int p0), (.int p1)] maxLocals t := by
      intro t k
      refine k26 t ?_
      refine XS.istoreN X0.here hx rfl (hb hby at_3) rfl (l' := #[.val (.int p0), .val (.int p1), .val (.int (1 : Int32)), .unset, .unset]) rfl ?_
      show own_At p e below m s₁ 4 #[.val (.int p0), .val (.int p1), .val (.int (1 : Int32)), .unset, .unset] [] t
      refine XS.iloadN X0.here hx rfl (hb hby at_4) rfl ?_
      show own_At p e below m s₁ 5 #[.val (.int p0), .val (.int p1), .val (.int (1 : Int32)), .unset, .unset] [(.int p1)] t
      refine XS.iconst X0.here hx rfl (hb hby at_5) ?_
      show own_At p e below m s₁ 6 #[.val (.int p0), .val (.int p1), .val (.int (1 : Int32)), .unset, .unset] [(.int (3 : Int32)), (.int p1)] t
      refine XS.iand X0.here hx rfl (hb hby at_6) rfl ?_
      show own_At p e below m s₁ 7 #[.val (.int p0), .val (.int p1), .val (.int (1 : Int32)), .unset, .unset] [(.int (p1 &&& (3 : Int32)))] t
      exact k
    rcases own_and3 p1 with hs28 | hs28 | hs28 | hs28
    · have k29 : ∀ t, own_At p e below m s₁ 7 #[.val (.int p0), .val (.int p1), .val (.int (1 : Int32)), .unset, .unset] [(.int (0 : Int32))] t → own_En p e below m s₁ #[(.int p0), (.int p1)] maxLocals t := by
        intro t k
        refine k27 t ?_
        rw [hs28]
        exact k
      obtain ⟨_, _, ⟨T30, L30, k30, n30⟩, -, X30, ⟨Lc30, hQ30, l30, y30, z30⟩, st30⟩ := Jvm.LawKit.callS X0 hx (y := own_m0) hown (mvT hZ (own_w hw 0 rfl)) (mvT hZ (own_w hw 1 rfl)) (mvT hZ (own_w hw 2 rfl)) (mvT hZ (own_w hw 3 rfl)) (by decide) (backOf (W := 0) (rm_f3 l Z a0 hw []  _ _ _ _ h0 n0 O0 hE) hZ (own_w hw 3 rfl) (own_w hw 2 rfl) (by decide) (by decide)) (g := (mkF m 40 #[.val (.int p0), .val (.int p1), .val (.int (1 : Int32)), .val (.int (0 : Int32)), .val (.int (0 : Int32))] [(.int (1 : Int32))])) rfl (by rw [hml]; rfl) (argsL := [(.int (1 : Int32))]) (rest := []) (lenOf pd__I_Lcom_example_scoped_authority_scopedauthority_Authority_ rfl) rfl (by show 2 * 0 + _ ≤ _; exact Nat.le_of_eq rfl) (hb hby at_40) (fun _ _ => ⟨rfl, e0, (by decide : 0 + 0 ≤ _), (by decide : 0 + 0 ≤ _)⟩)
      dsimp only [Pt.U, Pt.locs, Pt.cells, Pt.slots] at X30 l30 y30 z30 st30 hQ30
      subst l30 y30 z30
      obtain ⟨rfl, N30q, hp30⟩ := hQ30
      have N30 := Fr.app N0 N30q
      obtain ⟨_, _, ⟨T31, L31, k31, n31⟩, -, X31, ⟨Lc31, hQ31, l31, y31, z31⟩, st31⟩ := Jvm.LawKit.callS X30 hx (y := own_m0) hown (mvT hZ (own_w hw 0 rfl)) (mvT hZ (own_w hw 1 rfl)) (mvT hZ (own_w hw 2 rfl)) (mvT hZ (own_w hw 3 rfl)) (by decide) (backOf (W := 1) (rm_f1 l Z a0 hw []  _ _ _ _ h0 n0 O0 hE) hZ (own_w hw 3 rfl) (own_w hw 2 rfl) (by decide) (by decide)) (g := (mkF m 44 #[.val (.int p0), .val (.int p1), .val (.int (1 : Int32)), .val (.int (0 : Int32)), .val (.int (0 : Int32))] [(.int (0 : Int32)), (.ref a_OWNERSHIP)])) rfl (by rw [hml]; rfl) (argsL := [(.int (0 : Int32))]) (rest := [(.ref a_OWNERSHIP)]) (lenOf pd__I_Lcom_example_scoped_authority_scopedauthority_Authority_ rfl) rfl (by show 2 * 0 + _ ≤ _; exact Nat.le_of_eq rfl) (hb hby at_44) (fun _ _ => ⟨rfl, hp30, (by decide : 0 + 0 ≤ _), (by decide : 0 + 0 ≤ _)⟩)
      dsimp only [Pt.U, Pt.locs, Pt.cells, Pt.slots] at X31 l31 y31 z31 st31 hQ31
      subst l31 y31 z31
      obtain ⟨rfl, N31q, hp31⟩ := hQ31
      have N31 := Fr.app N30 N31q
      obtain ⟨cq32, kq32, q32a, q32b, q32c⟩ := isOf hZ hp31 (E_OWNERSHIP.ext O0.2)
      obtain ⟨_, _, ⟨T32, L32, k32, n32⟩, -, X32, ⟨Lc32, hQ32, l32, y32, z32⟩, st32⟩ := X31.virtualBack hx (y := own_m1) (z := own_m1) hown (mvT hZ (own_w hw 9 rfl)) (mvT hZ (own_w hw 10 rfl)) (notFace_of_selects (args := #[]) (mvT hZ (own_w hw 12 rfl))) (mvT hZ (own_w hw 12 rfl)) (mvT hZ (own_w hw 11 rfl)) (by decide) (backOf (W := 0) (rm_f9 l Z a0 hw []  _ _ _ _ h0 n0 O0 hE) hZ (own_w hw 13 rfl) (own_w hw 5 rfl) (by decide) (by decide)) q32a q32c (g := (mkF m 47 #[.val (.int p0), .val (.int p1), .val (.int (1 : Int32)), .val (.int (0 : Int32)), .val (.int (0 : Int32))] [(.ref a_MANAGEMENT), (.ref a_OWNERSHIP)])) rfl (by rw [hml]; rfl) (Steps.refl _) (argsL := [(.ref a_MANAGEMENT)]) (rest := []) (lenOf pd__Lcom_example_scoped_authority_scopedauthority_Authority__Z rfl) rfl (by show 2 * 0 + _ ≤ _; exact Nat.le_of_eq rfl) (hb hby at_47) (fun _ _ => ⟨rfl, hp31, (by decide : 0 + 0 ≤ _), (by decide : 0 + 0 ≤ _)⟩)
      dsimp only [Pt.U, Pt.locs, Pt.cells, Pt.slots] at X32 l32 y32 z32 st32 hQ32
      subst l32 y32 z32
      obtain ⟨rfl, N32q, hp32⟩ := hQ32
      have N32 := Fr.app N31 N32q
      have k33 : ∀ t, own_At p e below m T32 60 #[.val (.int p0), .val (.int p1), .val (.int (1 : Int32)), .val (.int (0 : Int32)), .val (.int (0 : Int32))] [(.int (1 : Int32))] t → own_En p e below m s₁ #[(.int p0), (.int p1)] maxLocals t := by
        intro t k
        refine k29 t ?_
        refine XS.istoreN X0.here hx rfl (hb hby at_7) rfl (l' := #[.val (.int p0), .val (.int p1), .val (.int (1 : Int32)), .val (.int (0 : Int32)), .unset]) rfl ?_
        show own_At p e below m s₁ 8 #[.val (.int p0), .val (.int p1), .val (.int (1 : Int32)), .val (.int (0 : Int32)), .unset] [] t
        refine XS.iloadN X0.here hx rfl (hb hby at_8) rfl ?_
        show own_At p e below m s₁ 9 #[.val (.int p0), .val (.int p1), .val (.int (1 : Int32)), .val (.int (0 : Int32)), .unset] [(.int (1 : Int32))] t
        refine XS.iloadN X0.here hx rfl (hb hby at_9) rfl ?_
        show own_At p e below m s₁ 10 #[.val (.int p0), .val (.int p1), .val (.int (1 : Int32)), .val (.int (0 : Int32)), .unset] [(.int (0 : Int32)), (.int (1 : Int32))] t
        refine XS.icmpNo X0.here hx rfl (hb hby at_10) rfl (feq (by decide : ¬ ((1 : Int32) = (0 : Int32)))).1 ?_
        show own_At p e below m s₁ 13 #[.val (.int p0), .val (.int p1), .val (.int (1 : Int32)), .val (.int (0 : Int32)), .unset] [] t
        refine XS.iloadN X0.here hx rfl (hb hby at_13) rfl ?_
        show own_At p e below m s₁ 14 #[.val (.int p0), .val (.int p1), .val (.int (1 : Int32)), .val (.int (0 : Int32)), .unset] [(.int (1 : Int32))] t
        refine XS.ifYes X0.here hx rfl (pc0 := 14) (pc' := 22) rfl (hb hby at_14) rfl ((if0 _ _).trans (feq (by decide : ¬ ((1 : Int32) = (0 : Int32)))).2) (by decide) (by decide) ?_
        show own_At p e below m s₁ 22 #[.val (.int p0), .val (.int p1), .val (.int (1 : Int32)), .val (.int (0 : Int32)), .unset] [] t
        refine XS.iloadN X0.here hx rfl (hb hby at_22) rfl ?_
        show own_At p e below m s₁ 23 #[.val (.int p0), .val (.int p1), .val (.int (1 : Int32)), .val (.int (0 : Int32)), .unset] [(.int (1 : Int32))] t
        refine XS.iconst X0.here hx rfl (hb hby at_23) ?_
        show own_At p e below m s₁ 24 #[.val (.int p0), .val (.int p1), .val (.int (1 : Int32)), .val (.int (0 : Int32)), .unset] [(.int (1 : Int32)), (.int (1 : Int32))] t
        refine XS.icmpNo X0.here hx rfl (hb hby at_24) rfl (teq (by decide : (1 : Int32) = (1 : Int32))).2 ?_
        show own_At p e below m s₁ 27 #[.val (.int p0), .val (.int p1), .val (.int (1 : Int32)), .val (.int (0 : Int32)), .unset] [] t
        refine XS.iloadN X0.here hx rfl (hb hby at_27) rfl ?_
        show own_At p e below m s₁ 28 #[.val (.int p0), .val (.int p1), .val (.int (1 : Int32)), .val (.int (0 : Int32)), .unset] [(.int (0 : Int32))] t
        refine XS.iconst X0.here hx rfl (hb hby at_28) ?_
        show own_At p e below m s₁ 29 #[.val (.int p0), .val (.int p1), .val (.int (1 : Int32)), .val (.int (0 : Int32)), .unset] [(.int (3 : Int32)), (.int (0 : Int32))] t
        refine XS.icmpYes X0.here hx rfl (pc0 := 29) (pc' := 36) rfl (hb hby at_29) rfl (feq (by decide : ¬ ((0 : Int32) = (3 : Int32)))).2 (by decide) (by decide) ?_
        show own_At p e below m s₁ 36 #[.val (.int p0), .val (.int p1), .val (.int (1 : Int32)), .val (.int (0 : Int32)), .unset] [] t
        refine XS.iconst X0.here hx rfl (hb hby at_36) ?_
        show own_At p e below m s₁ 37 #[.val (.int p0), .val (.int p1), .val (.int (1 : Int32)), .val (.int (0 : Int32)), .unset] [(.int (0 : Int32))] t
        refine XS.istore X0.here hx rfl (hb hby at_37) rfl (l' := #[.val (.int p0), .val (.int p1), .val (.int (1 : Int32)), .val (.int (0 : Int32)), .val (.int (0 : Int32))]) rfl ?_
        show own_At p e below m s₁ 39 #[.val (.int p0), .val (.int p1), .val (.int (1 : Int32)), .val (.int (0 : Int32)), .val (.int (0 : Int32))] [] t
        refine XS.iloadN X0.here hx rfl (hb hby at_39) rfl ?_
        show own_At p e below m s₁ 40 #[.val (.int p0), .val (.int p1), .val (.int (1 : Int32)), .val (.int (0 : Int32)), .val (.int (0 : Int32))] [(.int (1 : Int32))] t
        refine st30 _ ?_
        show own_At p e below m T30 43 #[.val (.int p0), .val (.int p1), .val (.int (1 : Int32)), .val (.int (0 : Int32)), .val (.int (0 : Int32))] [(.ref a_OWNERSHIP)] t
        refine XS.iloadN X30.here hx rfl (hb hby at_43) rfl ?_
        show own_At p e below m T30 44 #[.val (.int p0), .val (.int p1), .val (.int (1 : Int32)), .val (.int (0 : Int32)), .val (.int (0 : Int32))] [(.int (0 : Int32)), (.ref a_OWNERSHIP)] t
        refine st31 _ ?_
        show own_At p e below m T31 47 #[.val (.int p0), .val (.int p1), .val (.int (1 : Int32)), .val (.int (0 : Int32)), .val (.int (0 : Int32))] [(.ref a_MANAGEMENT), (.ref a_OWNERSHIP)] t
        refine st32.trans ?_
        show own_At p e below m T32 50 #[.val (.int p0), .val (.int p1), .val (.int (1 : Int32)), .val (.int (0 : Int32)), .val (.int (0 : Int32))] [(.int (0 : Int32))] t
        refine XS.iload X32.here hx rfl (hb hby at_50) rfl ?_
        show own_At p e below m T32 52 #[.val (.int p0), .val (.int p1), .val (.int (1 : Int32)), .val (.int (0 : Int32)), .val (.int (0 : Int32))] [(.int (0 : Int32)), (.int (0 : Int32))] t
        refine XS.icmpNo X32.here hx rfl (hb hby at_52) rfl (teq (by decide : (0 : Int32) = (0 : Int32))).2 ?_
        show own_At p e below m T32 55 #[.val (.int p0), .val (.int p1), .val (.int (1 : Int32)), .val (.int (0 : Int32)), .val (.int (0 : Int32))] [] t
        refine XS.iconst X32.here hx rfl (hb hby at_55) ?_
        show own_At p e below m T32 56 #[.val (.int p0), .val (.int p1), .val (.int (1 : Int32)), .val (.int (0 : Int32)), .val (.int (0 : Int32))] [(.int (1 : Int32))] t
        refine XS.goto X32.here hx rfl (pc0 := 56) (pc' := 60) rfl (hb hby at_56) (by decide) (by decide) ?_
        show own_At p e below m T32 60 #[.val (.int p0), .val (.int p1), .val (.int (1 : Int32)), .val (.int (0 : Int32)), .val (.int (0 : Int32))] [(.int (1 : Int32))] t
        exact k
      obtain ⟨fs, hr, hrun, hended, hW, hsame⟩ := X32.leave (v := some (.int (1 : Int32))) (fun h => by rw [Bd.returns] at h; cases h)
      refine hNG ⟨_, _, k33 _ ?_, hrun, hended, _, _, rfl, ?_, ⟨_, rfl⟩, hW, hsame.mono (by decide) (by decide)⟩
      · exact retN X32 hx (t := .boolean) Bd.returns (by simp) (hb hby at_60) hr
      · show Q_law Z p0 p1 a_MANAGEMENT a_GIVE a_OWNERSHIP a_ADMIN h0 n0 _ T32.heap _
        rw [hp32]
        exact ⟨rfl, N32⟩
    · have k34 : ∀ t, own_At p e below m s₁ 7 #[.val (.int p0), .val (.int p1), .val (.int (1 : Int32)), .unset, .unset] [(.int (1 : Int32))] t → own_En p e below m s₁ #[(.int p0), (.int p1)] maxLocals t := by
        intro t k
        refine k27 t ?_
        rw [hs28]
        exact k
      obtain ⟨_, _, ⟨T35, L35, k35, n35⟩, -, X35, ⟨Lc35, hQ35, l35, y35, z35⟩, st35⟩ := Jvm.LawKit.callS X0 hx (y := own_m0) hown (mvT hZ (own_w hw 0 rfl)) (mvT hZ (own_w hw 1 rfl)) (mvT hZ (own_w hw 2 rfl)) (mvT hZ (own_w hw 3 rfl)) (by decide) (backOf (W := 0) (rm_f3 l Z a0 hw []  _ _ _ _ h0 n0 O0 hE) hZ (own_w hw 3 rfl) (own_w hw 2 rfl) (by decide) (by decide)) (g := (mkF m 40 #[.val (.int p0), .val (.int p1), .val (.int (1 : Int32)), .val (.int (1 : Int32)), .val (.int (1 : Int32))] [(.int (1 : Int32))])) rfl (by rw [hml]; rfl) (argsL := [(.int (1 : Int32))]) (rest := []) (lenOf pd__I_Lcom_example_scoped_authority_scopedauthority_Authority_ rfl) rfl (by show 2 * 0 + _ ≤ _; exact Nat.le_of_eq rfl) (hb hby at_40) (fun _ _ => ⟨rfl, e0, (by decide : 0 + 0 ≤ _), (by decide : 0 + 0 ≤ _)⟩)
      dsimp only [Pt.U, Pt.locs, Pt.cells, Pt.slots] at X35 l35 y35 z35 st35 hQ35
      subst l35 y35 z35
      obtain ⟨rfl, N35q, hp35⟩ := hQ35
      have N35 := Fr.app N0 N35q
      obtain ⟨_, _, ⟨T36, L36, k36, n36⟩, -, X36, ⟨Lc36, hQ36, l36, y36, z36⟩, st36⟩ := Jvm.LawKit.callS X35 hx (y := own_m0) hown (mvT hZ (own_w hw 0 rfl)) (mvT hZ (own_w hw 1 rfl)) (mvT hZ (own_w hw 2 rfl)) (mvT hZ (own_w hw 3 rfl)) (by decide) (backOf (W := 1) (rm_f3 l Z a0 hw []  _ _ _ _ h0 n0 O0 hE) hZ (own_w hw 3 rfl) (own_w hw 2 rfl) (by decide) (by decide)) (g := (mkF m 44 #[.val (.int p0), .val (.int p1), .val (.int (1 : Int32)), .val (.int (1 : Int32)), .val (.int (1 : Int32))] [(.int (1 : Int32)), (.ref a_OWNERSHIP)])) rfl (by rw [hml]; rfl) (argsL := [(.int (1 : Int32))]) (rest := [(.ref a_OWNERSHIP)]) (lenOf pd__I_Lcom_example_scoped_authority_scopedauthority_Authority_ rfl) rfl (by show 2 * 0 + _ ≤ _; exact Nat.le_of_eq rfl) (hb hby at_44) (fun _ _ => ⟨rfl, hp35, (by decide : 0 + 0 ≤ _), (by decide : 0 + 0 ≤ _)⟩)
      dsimp only [Pt.U, Pt.locs, Pt.cells, Pt.slots] at X36 l36 y36 z36 st36 hQ36
      subst l36 y36 z36
      obtain ⟨rfl, N36q, hp36⟩ := hQ36
      have N36 := Fr.app N35 N36q
      obtain ⟨cq37, kq37, q37a, q37b, q37c⟩ := isOf hZ hp36 (E_OWNERSHIP.ext O0.2)
      obtain ⟨_, _, ⟨T37, L37, k37, n37⟩, -, X37, ⟨Lc37, hQ37, l37, y37, z37⟩, st37⟩ := X36.virtualBack hx (y := own_m1) (z := own_m1) hown (mvT hZ (own_w hw 9 rfl)) (mvT hZ (own_w hw 10 rfl)) (notFace_of_selects (args := #[]) (mvT hZ (own_w hw 12 rfl))) (mvT hZ (own_w hw 12 rfl)) (mvT hZ (own_w hw 11 rfl)) (by decide) (backOf (W := 0) (rm_f10 l Z a0 hw []  _ _ _ _ h0 n0 O0 hE) hZ (own_w hw 13 rfl) (own_w hw 5 rfl) (by decide) (by decide)) q37a q37c (g := (mkF m 47 #[.val (.int p0), .val (.int p1), .val (.int (1 : Int32)), .val (.int (1 : Int32)), .val (.int (1 : Int32))] [(.ref a_OWNERSHIP), (.ref a_OWNERSHIP)])) rfl (by rw [hml]; rfl) (Steps.refl _) (argsL := [(.ref a_OWNERSHIP)]) (rest := []) (lenOf pd__Lcom_example_scoped_authority_scopedauthority_Authority__Z rfl) rfl (by show 2 * 0 + _ ≤ _; exact Nat.le_of_eq rfl) (hb hby at_47) (fun _ _ => ⟨rfl, hp36, (by decide : 0 + 0 ≤ _), (by decide : 0 + 0 ≤ _)⟩)
      dsimp only [Pt.U, Pt.locs, Pt.cells, Pt.slots] at X37 l37 y37 z37 st37 hQ37
      subst l37 y37 z37
      obtain ⟨rfl, N37q, hp37⟩ := hQ37
      have N37 := Fr.app N36 N37q
      have k38 : ∀ t, own_At p e below m T37 60 #[.val (.int p0), .val (.int p1), .val (.int (1 : Int32)), .val (.int (1 : Int32)), .val (.int (1 : Int32))] [(.int (1 : Int32))] t → own_En p e below m s₁ #[(.int p0), (.int p1)] maxLocals t := by
        intro t k
        refine k34 t ?_
        refine XS.istoreN X0.here hx rfl (hb hby at_7) rfl (l' := #[.val (.int p0), .val (.int p1), .val (.int (1 : Int32)), .val (.int (1 : Int32)), .unset]) rfl ?_
        show own_At p e below m s₁ 8 #[.val (.int p0), .val (.int p1), .val (.int (1 : Int32)), .val (.int (1 : Int32)), .unset] [] t
        refine XS.iloadN X0.here hx rfl (hb hby at_8) rfl ?_
        show own_At p e below m s₁ 9 #[.val (.int p0), .val (.int p1), .val (.int (1 : Int32)), .val (.int (1 : Int32)), .unset] [(.int (1 : Int32))] t
        refine XS.iloadN X0.here hx rfl (hb hby at_9) rfl ?_
        show own_At p e below m s₁ 10 #[.val (.int p0), .val (.int p1), .val (.int (1 : Int32)), .val (.int (1 : Int32)), .unset] [(.int (1 : Int32)), (.int (1 : Int32))] t
        refine XS.icmpYes X0.here hx rfl (pc0 := 10) (pc' := 32) rfl (hb hby at_10) rfl (teq (by decide : (1 : Int32) = (1 : Int32))).1 (by decide) (by decide) ?_
        show own_At p e below m s₁ 32 #[.val (.int p0), .val (.int p1), .val (.int (1 : Int32)), .val (.int (1 : Int32)), .unset] [] t
        refine XS.iconst X0.here hx rfl (hb hby at_32) ?_
        show own_At p e below m s₁ 33 #[.val (.int p0), .val (.int p1), .val (.int (1 : Int32)), .val (.int (1 : Int32)), .unset] [(.int (1 : Int32))] t
        refine XS.goto X0.here hx rfl (pc0 := 33) (pc' := 37) rfl (hb hby at_33) (by decide) (by decide) ?_
        show own_At p e below m s₁ 37 #[.val (.int p0), .val (.int p1), .val (.int (1 : Int32)), .val (.int (1 : Int32)), .unset] [(.int (1 : Int32))] t
        refine XS.istore X0.here hx rfl (hb hby at_37) rfl (l' := #[.val (.int p0), .val (.int p1), .val (.int (1 : Int32)), .val (.int (1 : Int32)), .val (.int (1 : Int32))]) rfl ?_
        show own_At p e below m s₁ 39 #[.val (.int p0), .val (.int p1), .val (.int (1 : Int32)), .val (.int (1 : Int32)), .val (.int (1 : Int32))] [] t
        refine XS.iloadN X0.here hx rfl (hb hby at_39) rfl ?_
        show own_At p e below m s₁ 40 #[.val (.int p0), .val (.int p1), .val (.int (1 : Int32)), .val (.int (1 : Int32)), .val (.int (1 : Int32))] [(.int (1 : Int32))] t
        refine st35 _ ?_
        show own_At p e below m T35 43 #[.val (.int p0), .val (.int p1), .val (.int (1 : Int32)), .val (.int (1 : Int32)), .val (.int (1 : Int32))] [(.ref a_OWNERSHIP)] t
        refine XS.iloadN X35.here hx rfl (hb hby at_43) rfl ?_
        show own_At p e below m T35 44 #[.val (.int p0), .val (.int p1), .val (.int (1 : Int32)), .val (.int (1 : Int32)), .val (.int (1 : Int32))] [(.int (1 : Int32)), (.ref a_OWNERSHIP)] t
        refine st36 _ ?_
        show own_At p e below m T36 47 #[.val (.int p0), .val (.int p1), .val (.int (1 : Int32)), .val (.int (1 : Int32)), .val (.int (1 : Int32))] [(.ref a_OWNERSHIP), (.ref a_OWNERSHIP)] t
        refine st37.trans ?_
        show own_At p e below m T37 50 #[.val (.int p0), .val (.int p1), .val (.int (1 : Int32)), .val (.int (1 : Int32)), .val (.int (1 : Int32))] [(.int (1 : Int32))] t
        refine XS.iload X37.here hx rfl (hb hby at_50) rfl ?_
        show own_At p e below m T37 52 #[.val (.int p0), .val (.int p1), .val (.int (1 : Int32)), .val (.int (1 : Int32)), .val (.int (1 : Int32))] [(.int (1 : Int32)), (.int (1 : Int32))] t
        refine XS.icmpNo X37.here hx rfl (hb hby at_52) rfl (teq (by decide : (1 : Int32) = (1 : Int32))).2 ?_
        show own_At p e below m T37 55 #[.val (.int p0), .val (.int p1), .val (.int (1 : Int32)), .val (.int (1 : Int32)), .val (.int (1 : Int32))] [] t
        refine XS.iconst X37.here hx rfl (hb hby at_55) ?_
        show own_At p e below m T37 56 #[.val (.int p0), .val (.int p1), .val (.int (1 : Int32)), .val (.int (1 : Int32)), .val (.int (1 : Int32))] [(.int (1 : Int32))] t
        refine XS.goto X37.here hx rfl (pc0 := 56) (pc' := 60) rfl (hb hby at_56) (by decide) (by decide) ?_
        show own_At p e below m T37 60 #[.val (.int p0), .val (.int p1), .val (.int (1 : Int32)), .val (.int (1 : Int32)), .val (.int (1 : Int32))] [(.int (1 : Int32))] t
        exact k
      obtain ⟨fs, hr, hrun, hended, hW, hsame⟩ := X37.leave (v := some (.int (1 : Int32))) (fun h => by rw [Bd.returns] at h; cases h)
      refine hNG ⟨_, _, k38 _ ?_, hrun, hended, _, _, rfl, ?_, ⟨_, rfl⟩, hW, hsame.mono (by decide) (by decide)⟩
      · exact retN X37 hx (t := .boolean) Bd.returns (by simp) (hb hby at_60) hr
      · show Q_law Z p0 p1 a_MANAGEMENT a_GIVE a_OWNERSHIP a_ADMIN h0 n0 _ T37.heap _
        rw [hp37]
        exact ⟨rfl, N37⟩
    · have k39 : ∀ t, own_At p e below m s₁ 7 #[.val (.int p0), .val (.int p1), .val (.int (1 : Int32)), .unset, .unset] [(.int (2 : Int32))] t → own_En p e below m s₁ #[(.int p0), (.int p1)] maxLocals t := by
        intro t k
        refine k27 t ?_
        rw [hs28]
        exact k
      obtain ⟨_, _, ⟨T40, L40, k40, n40⟩, -, X40, ⟨Lc40, hQ40, l40, y40, z40⟩, st40⟩ := Jvm.LawKit.callS X0 hx (y := own_m0) hown (mvT hZ (own_w hw 0 rfl)) (mvT hZ (own_w hw 1 rfl)) (mvT hZ (own_w hw 2 rfl)) (mvT hZ (own_w hw 3 rfl)) (by decide) (backOf (W := 0) (rm_f3 l Z a0 hw []  _ _ _ _ h0 n0 O0 hE) hZ (own_w hw 3 rfl) (own_w hw 2 rfl) (by decide) (by decide)) (g := (mkF m 40 #[.val (.int p0), .val (.int p1), .val (.int (1 : Int32)), .val (.int (2 : Int32)), .val (.int (0 : Int32))] [(.int (1 : Int32))])) rfl (by rw [hml]; rfl) (argsL := [(.int (1 : Int32))]) (rest := []) (lenOf pd__I_Lcom_example_scoped_authority_scopedauthority_Authority_ rfl) rfl (by show 2 * 0 + _ ≤ _; exact Nat.le_of_eq rfl) (hb hby at_40) (fun _ _ => ⟨rfl, e0, (by decide : 0 + 0 ≤ _), (by decide : 0 + 0 ≤ _)⟩)
      dsimp only [Pt.U, Pt.locs, Pt.cells, Pt.slots] at X40 l40 y40 z40 st40 hQ40
      subst l40 y40 z40
      obtain ⟨rfl, N40q, hp40⟩ := hQ40
      have N40 := Fr.app N0 N40q
      obtain ⟨_, _, ⟨T41, L41, k41, n41⟩, -, X41, ⟨Lc41, hQ41, l41, y41, z41⟩, st41⟩ := Jvm.LawKit.callS X40 hx (y := own_m0) hown (mvT hZ (own_w hw 0 rfl)) (mvT hZ (own_w hw 1 rfl)) (mvT hZ (own_w hw 2 rfl)) (mvT hZ (own_w hw 3 rfl)) (by decide) (backOf (W := 1) (rm_f5 l Z a0 hw []  _ _ _ _ h0 n0 O0 hE) hZ (own_w hw 3 rfl) (own_w hw 2 rfl) (by decide) (by decide)) (g := (mkF m 44 #[.val (.int p0), .val (.int p1), .val (.int (1 : Int32)), .val (.int (2 : Int32)), .val (.int (0 : Int32))] [(.int (2 : Int32)), (.ref a_OWNERSHIP)])) rfl (by rw [hml]; rfl) (argsL := [(.int (2 : Int32))]) (rest := [(.ref a_OWNERSHIP)]) (lenOf pd__I_Lcom_example_scoped_authority_scopedauthority_Authority_ rfl) rfl (by show 2 * 0 + _ ≤ _; exact Nat.le_of_eq rfl) (hb hby at_44) (fun _ _ => ⟨rfl, hp40, (by decide : 0 + 0 ≤ _), (by decide : 0 + 0 ≤ _)⟩)
      dsimp only [Pt.U, Pt.locs, Pt.cells, Pt.slots] at X41 l41 y41 z41 st41 hQ41
      subst l41 y41 z41
      obtain ⟨rfl, N41q, hp41⟩ := hQ41
      have N41 := Fr.app N40 N41q
      obtain ⟨cq42, kq42, q42a, q42b, q42c⟩ := isOf hZ hp41 (E_OWNERSHIP.ext O0.2)
      obtain ⟨_, _, ⟨T42, L42, k42, n42⟩, -, X42, ⟨Lc42, hQ42, l42, y42, z42⟩, st42⟩ := X41.virtualBack hx (y := own_m1) (z := own_m1) hown (mvT hZ (own_w hw 9 rfl)) (mvT hZ (own_w hw 10 rfl)) (notFace_of_selects (args := #[]) (mvT hZ (own_w hw 12 rfl))) (mvT hZ (own_w hw 12 rfl)) (mvT hZ (own_w hw 11 rfl)) (by decide) (backOf (W := 0) (rm_f11 l Z a0 hw []  _ _ _ _ h0 n0 O0 hE) hZ (own_w hw 13 rfl) (own_w hw 5 rfl) (by decide) (by decide)) q42a q42c (g := (mkF m 47 #[.val (.int p0), .val (.int p1), .val (.int (1 : Int32)), .val (.int (2 : Int32)), .val (.int (0 : Int32))] [(.ref a_ADMIN), (.ref a_OWNERSHIP)])) rfl (by rw [hml]; rfl) (Steps.refl _) (argsL := [(.ref a_ADMIN)]) (rest := []) (lenOf pd__Lcom_example_scoped_authority_scopedauthority_Authority__Z rfl) rfl (by show 2 * 0 + _ ≤ _; exact Nat.le_of_eq rfl) (hb hby at_47) (fun _ _ => ⟨rfl, hp41, (by decide : 0 + 0 ≤ _), (by decide : 0 + 0 ≤ _)⟩)
      dsimp only [Pt.U, Pt.locs, Pt.cells, Pt.slots] at X42 l42 y42 z42 st42 hQ42
      subst l42 y42 z42
      obtain ⟨rfl, N42q, hp42⟩ := hQ42
      have N42 := Fr.app N41 N42q
      have k43 : ∀ t, own_At p e below m T42 60 #[.val (.int p0), .val (.int p1), .val (.int (1 : Int32)), .val (.int (2 : Int32)), .val (.int (0 : Int32))] [(.int (1 : Int32))] t → own_En p e below m s₁ #[(.int p0), (.int p1)] maxLocals t := by
        intro t k
        refine k39 t ?_
        refine XS.istoreN X0.here hx rfl (hb hby at_7) rfl (l' := #[.val (.int p0), .val (.int p1), .val (.int (1 : Int32)), .val (.int (2 : Int32)), .unset]) rfl ?_
        show own_At p e below m s₁ 8 #[.val (.int p0), .val (.int p1), .val (.int (1 : Int32)), .val (.int (2 : Int32)), .unset] [] t
        refine XS.iloadN X0.here hx rfl (hb hby at_8) rfl ?_
        show own_At p e below m s₁ 9 #[.val (.int p0), .val (.int p1), .val (.int (1 : Int32)), .val (.int (2 : Int32)), .unset] [(.int (1 : Int32))] t
        refine XS.iloadN X0.here hx rfl (hb hby at_9) rfl ?_
        show own_At p e below m s₁ 10 #[.val (.int p0), .val (.int p1), .val (.int (1 : Int32)), .val (.int (2 : Int32)), .unset] [(.int (2 : Int32)), (.int (1 : Int32))] t
        refine XS.icmpNo X0.here hx rfl (hb hby at_10) rfl (feq (by decide : ¬ ((1 : Int32) = (2 : Int32)))).1 ?_
        show own_At p e below m s₁ 13 #[.val (.int p0), .val (.int p1), .val (.int (1 : Int32)), .val (.int (2 : Int32)), .unset] [] t
        refine XS.iloadN X0.here hx rfl (hb hby at_13) rfl ?_
        show own_At p e below m s₁ 14 #[.val (.int p0), .val (.int p1), .val (.int (1 : Int32)), .val (.int (2 : Int32)), .unset] [(.int (1 : Int32))] t
        refine XS.ifYes X0.here hx rfl (pc0 := 14) (pc' := 22) rfl (hb hby at_14) rfl ((if0 _ _).trans (feq (by decide : ¬ ((1 : Int32) = (0 : Int32)))).2) (by decide) (by decide) ?_
        show own_At p e below m s₁ 22 #[.val (.int p0), .val (.int p1), .val (.int (1 : Int32)), .val (.int (2 : Int32)), .unset] [] t
        refine XS.iloadN X0.here hx rfl (hb hby at_22) rfl ?_
        show own_At p e below m s₁ 23 #[.val (.int p0), .val (.int p1), .val (.int (1 : Int32)), .val (.int (2 : Int32)), .unset] [(.int (1 : Int32))] t
        refine XS.iconst X0.here hx rfl (hb hby at_23) ?_
        show own_At p e below m s₁ 24 #[.val (.int p0), .val (.int p1), .val (.int (1 : Int32)), .val (.int (2 : Int32)), .unset] [(.int (1 : Int32)), (.int (1 : Int32))] t
        refine XS.icmpNo X0.here hx rfl (hb hby at_24) rfl (teq (by decide : (1 : Int32) = (1 : Int32))).2 ?_
        show own_At p e below m s₁ 27 #[.val (.int p0), .val (.int p1), .val (.int (1 : Int32)), .val (.int (2 : Int32)), .unset] [] t
        refine XS.iloadN X0.here hx rfl (hb hby at_27) rfl ?_
        show own_At p e below m s₁ 28 #[.val (.int p0), .val (.int p1), .val (.int (1 : Int32)), .val (.int (2 : Int32)), .unset] [(.int (2 : Int32))] t
        refine XS.iconst X0.here hx rfl (hb hby at_28) ?_
        show own_At p e below m s₁ 29 #[.val (.int p0), .val (.int p1), .val (.int (1 : Int32)), .val (.int (2 : Int32)), .unset] [(.int (3 : Int32)), (.int (2 : Int32))] t
        refine XS.icmpYes X0.here hx rfl (pc0 := 29) (pc' := 36) rfl (hb hby at_29) rfl (feq (by decide : ¬ ((2 : Int32) = (3 : Int32)))).2 (by decide) (by decide) ?_
        show own_At p e below m s₁ 36 #[.val (.int p0), .val (.int p1), .val (.int (1 : Int32)), .val (.int (2 : Int32)), .unset] [] t
        refine XS.iconst X0.here hx rfl (hb hby at_36) ?_
        show own_At p e below m s₁ 37 #[.val (.int p0), .val (.int p1), .val (.int (1 : Int32)), .val (.int (2 : Int32)), .unset] [(.int (0 : Int32))] t
        refine XS.istore X0.here hx rfl (hb hby at_37) rfl (l' := #[.val (.int p0), .val (.int p1), .val (.int (1 : Int32)), .val (.int (2 : Int32)), .val (.int (0 : Int32))]) rfl ?_
        show own_At p e below m s₁ 39 #[.val (.int p0), .val (.int p1), .val (.int (1 : Int32)), .val (.int (2 : Int32)), .val (.int (0 : Int32))] [] t
        refine XS.iloadN X0.here hx rfl (hb hby at_39) rfl ?_
        show own_At p e below m s₁ 40 #[.val (.int p0), .val (.int p1), .val (.int (1 : Int32)), .val (.int (2 : Int32)), .val (.int (0 : Int32))] [(.int (1 : Int32))] t
        refine st40 _ ?_
        show own_At p e below m T40 43 #[.val (.int p0), .val (.int p1), .val (.int (1 : Int32)), .val (.int (2 : Int32)), .val (.int (0 : Int32))] [(.ref a_OWNERSHIP)] t
        refine XS.iloadN X40.here hx rfl (hb hby at_43) rfl ?_
        show own_At p e below m T40 44 #[.val (.int p0), .val (.int p1), .val (.int (1 : Int32)), .val (.int (2 : Int32)), .val (.int (0 : Int32))] [(.int (2 : Int32)), (.ref a_OWNERSHIP)] t
        refine st41 _ ?_
        show own_At p e below m T41 47 #[.val (.int p0), .val (.int p1), .val (.int (1 : Int32)), .val (.int (2 : Int32)), .val (.int (0 : Int32))] [(.ref a_ADMIN), (.ref a_OWNERSHIP)] t
        refine st42.trans ?_
        show own_At p e below m T42 50 #[.val (.int p0), .val (.int p1), .val (.int (1 : Int32)), .val (.int (2 : Int32)), .val (.int (0 : Int32))] [(.int (0 : Int32))] t
        refine XS.iload X42.here hx rfl (hb hby at_50) rfl ?_
        show own_At p e below m T42 52 #[.val (.int p0), .val (.int p1), .val (.int (1 : Int32)), .val (.int (2 : Int32)), .val (.int (0 : Int32))] [(.int (0 : Int32)), (.int (0 : Int32))] t
        refine XS.icmpNo X42.here hx rfl (hb hby at_52) rfl (teq (by decide : (0 : Int32) = (0 : Int32))).2 ?_
        show own_At p e below m T42 55 #[.val (.int p0), .val (.int p1), .val (.int (1 : Int32)), .val (.int (2 : Int32)), .val (.int (0 : Int32))] [] t
        refine XS.iconst X42.here hx rfl (hb hby at_55) ?_
        show own_At p e below m T42 56 #[.val (.int p0), .val (.int p1), .val (.int (1 : Int32)), .val (.int (2 : Int32)), .val (.int (0 : Int32))] [(.int (1 : Int32))] t
        refine XS.goto X42.here hx rfl (pc0 := 56) (pc' := 60) rfl (hb hby at_56) (by decide) (by decide) ?_
        show own_At p e below m T42 60 #[.val (.int p0), .val (.int p1), .val (.int (1 : Int32)), .val (.int (2 : Int32)), .val (.int (0 : Int32))] [(.int (1 : Int32))] t
        exact k
      obtain ⟨fs, hr, hrun, hended, hW, hsame⟩ := X42.leave (v := some (.int (1 : Int32))) (fun h => by rw [Bd.returns] at h; cases h)
      refine hNG ⟨_, _, k43 _ ?_, hrun, hended, _, _, rfl, ?_, ⟨_, rfl⟩, hW, hsame.mono (by decide) (by decide)⟩
      · exact retN X42 hx (t := .boolean) Bd.returns (by simp) (hb hby at_60) hr
      · show Q_law Z p0 p1 a_MANAGEMENT a_GIVE a_OWNERSHIP a_ADMIN h0 n0 _ T42.heap _
        rw [hp42]
        exact ⟨rfl, N42⟩
    · have k44 : ∀ t, own_At p e below m s₁ 7 #[.val (.int p0), .val (.int p1), .val (.int (1 : Int32)), .unset, .unset] [(.int (3 : Int32))] t → own_En p e below m s₁ #[(.int p0), (.int p1)] maxLocals t := by
        intro t k
        refine k27 t ?_
        rw [hs28]
        exact k
      obtain ⟨_, _, ⟨T45, L45, k45, n45⟩, -, X45, ⟨Lc45, hQ45, l45, y45, z45⟩, st45⟩ := Jvm.LawKit.callS X0 hx (y := own_m0) hown (mvT hZ (own_w hw 0 rfl)) (mvT hZ (own_w hw 1 rfl)) (mvT hZ (own_w hw 2 rfl)) (mvT hZ (own_w hw 3 rfl)) (by decide) (backOf (W := 0) (rm_f3 l Z a0 hw []  _ _ _ _ h0 n0 O0 hE) hZ (own_w hw 3 rfl) (own_w hw 2 rfl) (by decide) (by decide)) (g := (mkF m 40 #[.val (.int p0), .val (.int p1), .val (.int (1 : Int32)), .val (.int (3 : Int32)), .val (.int (1 : Int32))] [(.int (1 : Int32))])) rfl (by rw [hml]; rfl) (argsL := [(.int (1 : Int32))]) (rest := []) (lenOf pd__I_Lcom_example_scoped_authority_scopedauthority_Authority_ rfl) rfl (by show 2 * 0 + _ ≤ _; exact Nat.le_of_eq rfl) (hb hby at_40) (fun _ _ => ⟨rfl, e0, (by decide : 0 + 0 ≤ _), (by decide : 0 + 0 ≤ _)⟩)
      dsimp only [Pt.U, Pt.locs, Pt.cells, Pt.slots] at X45 l45 y45 z45 st45 hQ45
      subst l45 y45 z45
      obtain ⟨rfl, N45q, hp45⟩ := hQ45
      have N45 := Fr.app N0 N45q
      obtain ⟨_, _, ⟨T46, L46, k46, n46⟩, -, X46, ⟨Lc46, hQ46, l46, y46, z46⟩, st46⟩ := Jvm.LawKit.callS X45 hx (y := own_m0) hown (mvT hZ (own_w hw 0 rfl)) (mvT hZ (own_w hw 1 rfl)) (mvT hZ (own_w hw 2 rfl)) (mvT hZ (own_w hw 3 rfl)) (by decide) (backOf (W := 1) (rm_f7 l Z a0 hw []  _ _ _ _ h0 n0 O0 hE) hZ (own_w hw 3 rfl) (own_w hw 2 rfl) (by decide) (by decide)) (g := (mkF m 44 #[.val (.int p0), .val (.int p1), .val (.int (1 : Int32)), .val (.int (3 : Int32)), .val (.int (1 : Int32))] [(.int (3 : Int32)), (.ref a_OWNERSHIP)])) rfl (by rw [hml]; rfl) (argsL := [(.int (3 : Int32))]) (rest := [(.ref a_OWNERSHIP)]) (lenOf pd__I_Lcom_example_scoped_authority_scopedauthority_Authority_ rfl) rfl (by show 2 * 0 + _ ≤ _; exact Nat.le_of_eq rfl) (hb hby at_44) (fun _ _ => ⟨rfl, hp45, (by decide : 0 + 0 ≤ _), (by decide : 0 + 0 ≤ _)⟩)
      dsimp only [Pt.U, Pt.locs, Pt.cells, Pt.slots] at X46 l46 y46 z46 st46 hQ46
      subst l46 y46 z46
      obtain ⟨rfl, N46q, hp46⟩ := hQ46
      have N46 := Fr.app N45 N46q
      obtain ⟨cq47, kq47, q47a, q47b, q47c⟩ := isOf hZ hp46 (E_OWNERSHIP.ext O0.2)
      obtain ⟨_, _, ⟨T47, L47, k47, n47⟩, -, X47, ⟨Lc47, hQ47, l47, y47, z47⟩, st47⟩ := X46.virtualBack hx (y := own_m1) (z := own_m1) hown (mvT hZ (own_w hw 9 rfl)) (mvT hZ (own_w hw 10 rfl)) (notFace_of_selects (args := #[]) (mvT hZ (own_w hw 12 rfl))) (mvT hZ (own_w hw 12 rfl)) (mvT hZ (own_w hw 11 rfl)) (by decide) (backOf (W := 0) (rm_f12 l Z a0 hw []  _ _ _ _ h0 n0 O0 hE) hZ (own_w hw 13 rfl) (own_w hw 5 rfl) (by decide) (by decide)) q47a q47c (g := (mkF m 47 #[.val (.int p0), .val (.int p1), .val (.int (1 : Int32)), .val (.int (3 : Int32)), .val (.int (1 : Int32))] [(.ref a_GIVE), (.ref a_OWNERSHIP)])) rfl (by rw [hml]; rfl) (Steps.refl _) (argsL := [(.ref a_GIVE)]) (rest := []) (lenOf pd__Lcom_example_scoped_authority_scopedauthority_Authority__Z rfl) rfl (by show 2 * 0 + _ ≤ _; exact Nat.le_of_eq rfl) (hb hby at_47) (fun _ _ => ⟨rfl, hp46, (by decide : 0 + 0 ≤ _), (by decide : 0 + 0 ≤ _)⟩)
      dsimp only [Pt.U, Pt.locs, Pt.cells, Pt.slots] at X47 l47 y47 z47 st47 hQ47
      subst l47 y47 z47
      obtain ⟨rfl, N47q, hp47⟩ := hQ47
      have N47 := Fr.app N46 N47q
      have k48 : ∀ t, own_At p e below m T47 60 #[.val (.int p0), .val (.int p1), .val (.int (1 : Int32)), .val (.int (3 : Int32)), .val (.int (1 : Int32))] [(.int (1 : Int32))] t → own_En p e below m s₁ #[(.int p0), (.int p1)] maxLocals t := by
        intro t k
        refine k44 t ?_
        refine XS.istoreN X0.here hx rfl (hb hby at_7) rfl (l' := #[.val (.int p0), .val (.int p1), .val (.int (1 : Int32)), .val (.int (3 : Int32)), .unset]) rfl ?_
        show own_At p e below m s₁ 8 #[.val (.int p0), .val (.int p1), .val (.int (1 : Int32)), .val (.int (3 : Int32)), .unset] [] t
        refine XS.iloadN X0.here hx rfl (hb hby at_8) rfl ?_
        show own_At p e below m s₁ 9 #[.val (.int p0), .val (.int p1), .val (.int (1 : Int32)), .val (.int (3 : Int32)), .unset] [(.int (1 : Int32))] t
        refine XS.iloadN X0.here hx rfl (hb hby at_9) rfl ?_
        show own_At p e below m s₁ 10 #[.val (.int p0), .val (.int p1), .val (.int (1 : Int32)), .val (.int (3 : Int32)), .unset] [(.int (3 : Int32)), (.int (1 : Int32))] t
        refine XS.icmpNo X0.here hx rfl (hb hby at_10) rfl (feq (by decide : ¬ ((1 : Int32) = (3 : Int32)))).1 ?_
        show own_At p e below m s₁ 13 #[.val (.int p0), .val (.int p1), .val (.int (1 : Int32)), .val (.int (3 : Int32)), .unset] [] t
        refine XS.iloadN X0.here hx rfl (hb hby at_13) rfl ?_
        show own_At p e below m s₁ 14 #[.val (.int p0), .val (.int p1), .val (.int (1 : Int32)), .val (.int (3 : Int32)), .unset] [(.int (1 : Int32))] t
        refine XS.ifYes X0.here hx rfl (pc0 := 14) (pc' := 22) rfl (hb hby at_14) rfl ((if0 _ _).trans (feq (by decide : ¬ ((1 : Int32) = (0 : Int32)))).2) (by decide) (by decide) ?_
        show own_At p e below m s₁ 22 #[.val (.int p0), .val (.int p1), .val (.int (1 : Int32)), .val (.int (3 : Int32)), .unset] [] t
        refine XS.iloadN X0.here hx rfl (hb hby at_22) rfl ?_
        show own_At p e below m s₁ 23 #[.val (.int p0), .val (.int p1), .val (.int (1 : Int32)), .val (.int (3 : Int32)), .unset] [(.int (1 : Int32))] t
        refine XS.iconst X0.here hx rfl (hb hby at_23) ?_
        show own_At p e below m s₁ 24 #[.val (.int p0), .val (.int p1), .val (.int (1 : Int32)), .val (.int (3 : Int32)), .unset] [(.int (1 : Int32)), (.int (1 : Int32))] t
        refine XS.icmpNo X0.here hx rfl (hb hby at_24) rfl (teq (by decide : (1 : Int32) = (1 : Int32))).2 ?_
        show own_At p e below m s₁ 27 #[.val (.int p0), .val (.int p1), .val (.int (1 : Int32)), .val (.int (3 : Int32)), .unset] [] t
        refine XS.iloadN X0.here hx rfl (hb hby at_27) rfl ?_
        show own_At p e below m s₁ 28 #[.val (.int p0), .val (.int p1), .val (.int (1 : Int32)), .val (.int (3 : Int32)), .unset] [(.int (3 : Int32))] t
        refine XS.iconst X0.here hx rfl (hb hby at_28) ?_
        show own_At p e below m s₁ 29 #[.val (.int p0), .val (.int p1), .val (.int (1 : Int32)), .val (.int (3 : Int32)), .unset] [(.int (3 : Int32)), (.int (3 : Int32))] t
        refine XS.icmpNo X0.here hx rfl (hb hby at_29) rfl (teq (by decide : (3 : Int32) = (3 : Int32))).2 ?_
        show own_At p e below m s₁ 32 #[.val (.int p0), .val (.int p1), .val (.int (1 : Int32)), .val (.int (3 : Int32)), .unset] [] t
        refine XS.iconst X0.here hx rfl (hb hby at_32) ?_
        show own_At p e below m s₁ 33 #[.val (.int p0), .val (.int p1), .val (.int (1 : Int32)), .val (.int (3 : Int32)), .unset] [(.int (1 : Int32))] t
        refine XS.goto X0.here hx rfl (pc0 := 33) (pc' := 37) rfl (hb hby at_33) (by decide) (by decide) ?_
        show own_At p e below m s₁ 37 #[.val (.int p0), .val (.int p1), .val (.int (1 : Int32)), .val (.int (3 : Int32)), .unset] [(.int (1 : Int32))] t
        refine XS.istore X0.here hx rfl (hb hby at_37) rfl (l' := #[.val (.int p0), .val (.int p1), .val (.int (1 : Int32)), .val (.int (3 : Int32)), .val (.int (1 : Int32))]) rfl ?_
        show own_At p e below m s₁ 39 #[.val (.int p0), .val (.int p1), .val (.int (1 : Int32)), .val (.int (3 : Int32)), .val (.int (1 : Int32))] [] t
        refine XS.iloadN X0.here hx rfl (hb hby at_39) rfl ?_
        show own_At p e below m s₁ 40 #[.val (.int p0), .val (.int p1), .val (.int (1 : Int32)), .val (.int (3 : Int32)), .val (.int (1 : Int32))] [(.int (1 : Int32))] t
        refine st45 _ ?_
        show own_At p e below m T45 43 #[.val (.int p0), .val (.int p1), .val (.int (1 : Int32)), .val (.int (3 : Int32)), .val (.int (1 : Int32))] [(.ref a_OWNERSHIP)] t
        refine XS.iloadN X45.here hx rfl (hb hby at_43) rfl ?_
        show own_At p e below m T45 44 #[.val (.int p0), .val (.int p1), .val (.int (1 : Int32)), .val (.int (3 : Int32)), .val (.int (1 : Int32))] [(.int (3 : Int32)), (.ref a_OWNERSHIP)] t
        refine st46 _ ?_
        show own_At p e below m T46 47 #[.val (.int p0), .val (.int p1), .val (.int (1 : Int32)), .val (.int (3 : Int32)), .val (.int (1 : Int32))] [(.ref a_GIVE), (.ref a_OWNERSHIP)] t
        refine st47.trans ?_
        show own_At p e below m T47 50 #[.val (.int p0), .val (.int p1), .val (.int (1 : Int32)), .val (.int (3 : Int32)), .val (.int (1 : Int32))] [(.int (1 : Int32))] t
        refine XS.iload X47.here hx rfl (hb hby at_50) rfl ?_
        show own_At p e below m T47 52 #[.val (.int p0), .val (.int p1), .val (.int (1 : Int32)), .val (.int (3 : Int32)), .val (.int (1 : Int32))] [(.int (1 : Int32)), (.int (1 : Int32))] t
        refine XS.icmpNo X47.here hx rfl (hb hby at_52) rfl (teq (by decide : (1 : Int32) = (1 : Int32))).2 ?_
        show own_At p e below m T47 55 #[.val (.int p0), .val (.int p1), .val (.int (1 : Int32)), .val (.int (3 : Int32)), .val (.int (1 : Int32))] [] t
        refine XS.iconst X47.here hx rfl (hb hby at_55) ?_
        show own_At p e below m T47 56 #[.val (.int p0), .val (.int p1), .val (.int (1 : Int32)), .val (.int (3 : Int32)), .val (.int (1 : Int32))] [(.int (1 : Int32))] t
        refine XS.goto X47.here hx rfl (pc0 := 56) (pc' := 60) rfl (hb hby at_56) (by decide) (by decide) ?_
        show own_At p e below m T47 60 #[.val (.int p0), .val (.int p1), .val (.int (1 : Int32)), .val (.int (3 : Int32)), .val (.int (1 : Int32))] [(.int (1 : Int32))] t
        exact k
      obtain ⟨fs, hr, hrun, hended, hW, hsame⟩ := X47.leave (v := some (.int (1 : Int32))) (fun h => by rw [Bd.returns] at h; cases h)
      refine hNG ⟨_, _, k48 _ ?_, hrun, hended, _, _, rfl, ?_, ⟨_, rfl⟩, hW, hsame.mono (by decide) (by decide)⟩
      · exact retN X47 hx (t := .boolean) Bd.returns (by simp) (hb hby at_60) hr
      · show Q_law Z p0 p1 a_MANAGEMENT a_GIVE a_OWNERSHIP a_ADMIN h0 n0 _ T47.heap _
        rw [hp47]
        exact ⟨rfl, N47⟩
  · have k49 : ∀ t, own_At p e below m s₁ 3 #[.val (.int p0), .val (.int p1), .unset, .unset, .unset] [(.int (2 : Int32))] t → own_En p e below m s₁ #[(.int p0), (.int p1)] maxLocals t := by
      intro t k
      refine k1 t ?_
      rw [hs2]
      exact k
    have k50 : ∀ t, own_At p e below m s₁ 7 #[.val (.int p0), .val (.int p1), .val (.int (2 : Int32)), .unset, .unset] [(.int (p1 &&& (3 : Int32)))] t → own_En p e below m s₁ #[(.int p0), (.int p1)] maxLocals t := by
      intro t k
      refine k49 t ?_
      refine XS.istoreN X0.here hx rfl (hb hby at_3) rfl (l' := #[.val (.int p0), .val (.int p1), .val (.int (2 : Int32)), .unset, .unset]) rfl ?_
      show own_At p e below m s₁ 4 #[.val (.int p0), .val (.int p1), .val (.int (2 : Int32)), .unset, .unset] [] t
      refine XS.iloadN X0.here hx rfl (hb hby at_4) rfl ?_
      show own_At p e below m s₁ 5 #[.val (.int p0), .val (.int p1), .val (.int (2 : Int32)), .unset, .unset] [(.int p1)] t
      refine XS.iconst X0.here hx rfl (hb hby at_5) ?_
      show own_At p e below m s₁ 6 #[.val (.int p0), .val (.int p1), .val (.int (2 : Int32)), .unset, .unset] [(.int (3 : Int32)), (.int p1)] t
      refine XS.iand X0.here hx rfl (hb hby at_6) rfl ?_
      show own_At p e below m s₁ 7 #[.val (.int p0), .val (.int p1), .val (.int (2 : Int32)), .unset, .unset] [(.int (p1 &&& (3 : Int32)))] t
      exact k
    rcases own_and3 p1 with hs51 | hs51 | hs51 | hs51
    · have k52 : ∀ t, own_At p e below m s₁ 7 #[.val (.int p0), .val (.int p1), .val (.int (2 : Int32)), .unset, .unset] [(.int (0 : Int32))] t → own_En p e below m s₁ #[(.int p0), (.int p1)] maxLocals t := by
        intro t k
        refine k50 t ?_
        rw [hs51]
        exact k
      obtain ⟨_, _, ⟨T53, L53, k53, n53⟩, -, X53, ⟨Lc53, hQ53, l53, y53, z53⟩, st53⟩ := Jvm.LawKit.callS X0 hx (y := own_m0) hown (mvT hZ (own_w hw 0 rfl)) (mvT hZ (own_w hw 1 rfl)) (mvT hZ (own_w hw 2 rfl)) (mvT hZ (own_w hw 3 rfl)) (by decide) (backOf (W := 0) (rm_f5 l Z a0 hw []  _ _ _ _ h0 n0 O0 hE) hZ (own_w hw 3 rfl) (own_w hw 2 rfl) (by decide) (by decide)) (g := (mkF m 40 #[.val (.int p0), .val (.int p1), .val (.int (2 : Int32)), .val (.int (0 : Int32)), .val (.int (0 : Int32))] [(.int (2 : Int32))])) rfl (by rw [hml]; rfl) (argsL := [(.int (2 : Int32))]) (rest := []) (lenOf pd__I_Lcom_example_scoped_authority_scopedauthority_Authority_ rfl) rfl (by show 2 * 0 + _ ≤ _; exact Nat.le_of_eq rfl) (hb hby at_40) (fun _ _ => ⟨rfl, e0, (by decide : 0 + 0 ≤ _), (by decide : 0 + 0 ≤ _)⟩)
      dsimp only [Pt.U, Pt.locs, Pt.cells, Pt.slots] at X53 l53 y53 z53 st53 hQ53
      subst l53 y53 z53
      obtain ⟨rfl, N53q, hp53⟩ := hQ53
      have N53 := Fr.app N0 N53q
      obtain ⟨_, _, ⟨T54, L54, k54, n54⟩, -, X54, ⟨Lc54, hQ54, l54, y54, z54⟩, st54⟩ := Jvm.LawKit.callS X53 hx (y := own_m0) hown (mvT hZ (own_w hw 0 rfl)) (mvT hZ (own_w hw 1 rfl)) (mvT hZ (own_w hw 2 rfl)) (mvT hZ (own_w hw 3 rfl)) (by decide) (backOf (W := 1) (rm_f1 l Z a0 hw []  _ _ _ _ h0 n0 O0 hE) hZ (own_w hw 3 rfl) (own_w hw 2 rfl) (by decide) (by decide)) (g := (mkF m 44 #[.val (.int p0), .val (.int p1), .val (.int (2 : Int32)), .val (.int (0 : Int32)), .val (.int (0 : Int32))] [(.int (0 : Int32)), (.ref a_ADMIN)])) rfl (by rw [hml]; rfl) (argsL := [(.int (0 : Int32))]) (rest := [(.ref a_ADMIN)]) (lenOf pd__I_Lcom_example_scoped_authority_scopedauthority_Authority_ rfl) rfl (by show 2 * 0 + _ ≤ _; exact Nat.le_of_eq rfl) (hb hby at_44) (fun _ _ => ⟨rfl, hp53, (by decide : 0 + 0 ≤ _), (by decide : 0 + 0 ≤ _)⟩)
      dsimp only [Pt.U, Pt.locs, Pt.cells, Pt.slots] at X54 l54 y54 z54 st54 hQ54
      subst l54 y54 z54
      obtain ⟨rfl, N54q, hp54⟩ := hQ54
      have N54 := Fr.app N53 N54q
      obtain ⟨cq55, kq55, q55a, q55b, q55c⟩ := isOf hZ hp54 (E_ADMIN.ext O0.2)
      obtain ⟨_, _, ⟨T55, L55, k55, n55⟩, -, X55, ⟨Lc55, hQ55, l55, y55, z55⟩, st55⟩ := X54.virtualBack hx (y := own_m1) (z := own_m1) hown (mvT hZ (own_w hw 9 rfl)) (mvT hZ (own_w hw 10 rfl)) (notFace_of_selects (args := #[]) (mvT hZ (own_w hw 12 rfl))) (mvT hZ (own_w hw 12 rfl)) (mvT hZ (own_w hw 11 rfl)) (by decide) (backOf (W := 0) (rm_f13 l Z a0 hw []  _ _ _ _ h0 n0 O0 hE) hZ (own_w hw 13 rfl) (own_w hw 5 rfl) (by decide) (by decide)) q55a q55c (g := (mkF m 47 #[.val (.int p0), .val (.int p1), .val (.int (2 : Int32)), .val (.int (0 : Int32)), .val (.int (0 : Int32))] [(.ref a_MANAGEMENT), (.ref a_ADMIN)])) rfl (by rw [hml]; rfl) (Steps.refl _) (argsL := [(.ref a_MANAGEMENT)]) (rest := []) (lenOf pd__Lcom_example_scoped_authority_scopedauthority_Authority__Z rfl) rfl (by show 2 * 0 + _ ≤ _; exact Nat.le_of_eq rfl) (hb hby at_47) (fun _ _ => ⟨rfl, hp54, (by decide : 0 + 0 ≤ _), (by decide : 0 + 0 ≤ _)⟩)
      dsimp only [Pt.U, Pt.locs, Pt.cells, Pt.slots] at X55 l55 y55 z55 st55 hQ55
      subst l55 y55 z55
      obtain ⟨rfl, N55q, hp55⟩ := hQ55
      have N55 := Fr.app N54 N55q
      have k56 : ∀ t, own_At p e below m T55 60 #[.val (.int p0), .val (.int p1), .val (.int (2 : Int32)), .val (.int (0 : Int32)), .val (.int (0 : Int32))] [(.int (1 : Int32))] t → own_En p e below m s₁ #[(.int p0), (.int p1)] maxLocals t := by
        intro t k
        refine k52 t ?_
        refine XS.istoreN X0.here hx rfl (hb hby at_7) rfl (l' := #[.val (.int p0), .val (.int p1), .val (.int (2 : Int32)), .val (.int (0 : Int32)), .unset]) rfl ?_
        show own_At p e below m s₁ 8 #[.val (.int p0), .val (.int p1), .val (.int (2 : Int32)), .val (.int (0 : Int32)), .unset] [] t
        refine XS.iloadN X0.here hx rfl (hb hby at_8) rfl ?_
        show own_At p e below m s₁ 9 #[.val (.int p0), .val (.int p1), .val (.int (2 : Int32)), .val (.int (0 : Int32)), .unset] [(.int (2 : Int32))] t
        refine XS.iloadN X0.here hx rfl (hb hby at_9) rfl ?_
        show own_At p e below m s₁ 10 #[.val (.int p0), .val (.int p1), .val (.int (2 : Int32)), .val (.int (0 : Int32)), .unset] [(.int (0 : Int32)), (.int (2 : Int32))] t
        refine XS.icmpNo X0.here hx rfl (hb hby at_10) rfl (feq (by decide : ¬ ((2 : Int32) = (0 : Int32)))).1 ?_
        show own_At p e below m s₁ 13 #[.val (.int p0), .val (.int p1), .val (.int (2 : Int32)), .val (.int (0 : Int32)), .unset] [] t
        refine XS.iloadN X0.here hx rfl (hb hby at_13) rfl ?_
        show own_At p e below m s₁ 14 #[.val (.int p0), .val (.int p1), .val (.int (2 : Int32)), .val (.int (0 : Int32)), .unset] [(.int (2 : Int32))] t
        refine XS.ifYes X0.here hx rfl (pc0 := 14) (pc' := 22) rfl (hb hby at_14) rfl ((if0 _ _).trans (feq (by decide : ¬ ((2 : Int32) = (0 : Int32)))).2) (by decide) (by decide) ?_
        show own_At p e below m s₁ 22 #[.val (.int p0), .val (.int p1), .val (.int (2 : Int32)), .val (.int (0 : Int32)), .unset] [] t
        refine XS.iloadN X0.here hx rfl (hb hby at_22) rfl ?_
        show own_At p e below m s₁ 23 #[.val (.int p0), .val (.int p1), .val (.int (2 : Int32)), .val (.int (0 : Int32)), .unset] [(.int (2 : Int32))] t
        refine XS.iconst X0.here hx rfl (hb hby at_23) ?_
        show own_At p e below m s₁ 24 #[.val (.int p0), .val (.int p1), .val (.int (2 : Int32)), .val (.int (0 : Int32)), .unset] [(.int (1 : Int32)), (.int (2 : Int32))] t
        refine XS.icmpYes X0.here hx rfl (pc0 := 24) (pc' := 36) rfl (hb hby at_24) rfl (feq (by decide : ¬ ((2 : Int32) = (1 : Int32)))).2 (by decide) (by decide) ?_
        show own_At p e below m s₁ 36 #[.val (.int p0), .val (.int p1), .val (.int (2 : Int32)), .val (.int (0 : Int32)), .unset] [] t
        refine XS.iconst X0.here hx rfl (hb hby at_36) ?_
        show own_At p e below m s₁ 37 #[.val (.int p0), .val (.int p1), .val (.int (2 : Int32)), .val (.int (0 : Int32)), .unset] [(.int (0 : Int32))] t
        refine XS.istore X0.here hx rfl (hb hby at_37) rfl (l' := #[.val (.int p0), .val (.int p1), .val (.int (2 : Int32)), .val (.int (0 : Int32)), .val (.int (0 : Int32))]) rfl ?_
        show own_At p e below m s₁ 39 #[.val (.int p0), .val (.int p1), .val (.int (2 : Int32)), .val (.int (0 : Int32)), .val (.int (0 : Int32))] [] t
        refine XS.iloadN X0.here hx rfl (hb hby at_39) rfl ?_
        show own_At p e below m s₁ 40 #[.val (.int p0), .val (.int p1), .val (.int (2 : Int32)), .val (.int (0 : Int32)), .val (.int (0 : Int32))] [(.int (2 : Int32))] t
        refine st53 _ ?_
        show own_At p e below m T53 43 #[.val (.int p0), .val (.int p1), .val (.int (2 : Int32)), .val (.int (0 : Int32)), .val (.int (0 : Int32))] [(.ref a_ADMIN)] t
        refine XS.iloadN X53.here hx rfl (hb hby at_43) rfl ?_
        show own_At p e below m T53 44 #[.val (.int p0), .val (.int p1), .val (.int (2 : Int32)), .val (.int (0 : Int32)), .val (.int (0 : Int32))] [(.int (0 : Int32)), (.ref a_ADMIN)] t
        refine st54 _ ?_
        show own_At p e below m T54 47 #[.val (.int p0), .val (.int p1), .val (.int (2 : Int32)), .val (.int (0 : Int32)), .val (.int (0 : Int32))] [(.ref a_MANAGEMENT), (.ref a_ADMIN)] t
        refine st55.trans ?_
        show own_At p e below m T55 50 #[.val (.int p0), .val (.int p1), .val (.int (2 : Int32)), .val (.int (0 : Int32)), .val (.int (0 : Int32))] [(.int (0 : Int32))] t
        refine XS.iload X55.here hx rfl (hb hby at_50) rfl ?_
        show own_At p e below m T55 52 #[.val (.int p0), .val (.int p1), .val (.int (2 : Int32)), .val (.int (0 : Int32)), .val (.int (0 : Int32))] [(.int (0 : Int32)), (.int (0 : Int32))] t
        refine XS.icmpNo X55.here hx rfl (hb hby at_52) rfl (teq (by decide : (0 : Int32) = (0 : Int32))).2 ?_
        show own_At p e below m T55 55 #[.val (.int p0), .val (.int p1), .val (.int (2 : Int32)), .val (.int (0 : Int32)), .val (.int (0 : Int32))] [] t
        refine XS.iconst X55.here hx rfl (hb hby at_55) ?_
        show own_At p e below m T55 56 #[.val (.int p0), .val (.int p1), .val (.int (2 : Int32)), .val (.int (0 : Int32)), .val (.int (0 : Int32))] [(.int (1 : Int32))] t
        refine XS.goto X55.here hx rfl (pc0 := 56) (pc' := 60) rfl (hb hby at_56) (by decide) (by decide) ?_
        show own_At p e below m T55 60 #[.val (.int p0), .val (.int p1), .val (.int (2 : Int32)), .val (.int (0 : Int32)), .val (.int (0 : Int32))] [(.int (1 : Int32))] t
        exact k
      obtain ⟨fs, hr, hrun, hended, hW, hsame⟩ := X55.leave (v := some (.int (1 : Int32))) (fun h => by rw [Bd.returns] at h; cases h)
      refine hNG ⟨_, _, k56 _ ?_, hrun, hended, _, _, rfl, ?_, ⟨_, rfl⟩, hW, hsame.mono (by decide) (by decide)⟩
      · exact retN X55 hx (t := .boolean) Bd.returns (by simp) (hb hby at_60) hr
      · show Q_law Z p0 p1 a_MANAGEMENT a_GIVE a_OWNERSHIP a_ADMIN h0 n0 _ T55.heap _
        rw [hp55]
        exact ⟨rfl, N55⟩
    · have k57 : ∀ t, own_At p e below m s₁ 7 #[.val (.int p0), .val (.int p1), .val (.int (2 : Int32)), .unset, .unset] [(.int (1 : Int32))] t → own_En p e below m s₁ #[(.int p0), (.int p1)] maxLocals t := by
        intro t k
        refine k50 t ?_
        rw [hs51]
        exact k
      obtain ⟨_, _, ⟨T58, L58, k58, n58⟩, -, X58, ⟨Lc58, hQ58, l58, y58, z58⟩, st58⟩ := Jvm.LawKit.callS X0 hx (y := own_m0) hown (mvT hZ (own_w hw 0 rfl)) (mvT hZ (own_w hw 1 rfl)) (mvT hZ (own_w hw 2 rfl)) (mvT hZ (own_w hw 3 rfl)) (by decide) (backOf (W := 0) (rm_f5 l Z a0 hw []  _ _ _ _ h0 n0 O0 hE) hZ (own_w hw 3 rfl) (own_w hw 2 rfl) (by decide) (by decide)) (g := (mkF m 40 #[.val (.int p0), .val (.int p1), .val (.int (2 : Int32)), .val (.int (1 : Int32)), .val (.int (0 : Int32))] [(.int (2 : Int32))])) rfl (by rw [hml]; rfl) (argsL := [(.int (2 : Int32))]) (rest := []) (lenOf pd__I_Lcom_example_scoped_authority_scopedauthority_Authority_ rfl) rfl (by show 2 * 0 + _ ≤ _; exact Nat.le_of_eq rfl) (hb hby at_40) (fun _ _ => ⟨rfl, e0, (by decide : 0 + 0 ≤ _), (by decide : 0 + 0 ≤ _)⟩)
      dsimp only [Pt.U, Pt.locs, Pt.cells, Pt.slots] at X58 l58 y58 z58 st58 hQ58
      subst l58 y58 z58
      obtain ⟨rfl, N58q, hp58⟩ := hQ58
      have N58 := Fr.app N0 N58q
      obtain ⟨_, _, ⟨T59, L59, k59, n59⟩, -, X59, ⟨Lc59, hQ59, l59, y59, z59⟩, st59⟩ := Jvm.LawKit.callS X58 hx (y := own_m0) hown (mvT hZ (own_w hw 0 rfl)) (mvT hZ (own_w hw 1 rfl)) (mvT hZ (own_w hw 2 rfl)) (mvT hZ (own_w hw 3 rfl)) (by decide) (backOf (W := 1) (rm_f3 l Z a0 hw []  _ _ _ _ h0 n0 O0 hE) hZ (own_w hw 3 rfl) (own_w hw 2 rfl) (by decide) (by decide)) (g := (mkF m 44 #[.val (.int p0), .val (.int p1), .val (.int (2 : Int32)), .val (.int (1 : Int32)), .val (.int (0 : Int32))] [(.int (1 : Int32)), (.ref a_ADMIN)])) rfl (by rw [hml]; rfl) (argsL := [(.int (1 : Int32))]) (rest := [(.ref a_ADMIN)]) (lenOf pd__I_Lcom_example_scoped_authority_scopedauthority_Authority_ rfl) rfl (by show 2 * 0 + _ ≤ _; exact Nat.le_of_eq rfl) (hb hby at_44) (fun _ _ => ⟨rfl, hp58, (by decide : 0 + 0 ≤ _), (by decide : 0 + 0 ≤ _)⟩)
      dsimp only [Pt.U, Pt.locs, Pt.cells, Pt.slots] at X59 l59 y59 z59 st59 hQ59
      subst l59 y59 z59
      obtain ⟨rfl, N59q, hp59⟩ := hQ59
      have N59 := Fr.app N58 N59q
      obtain ⟨cq60, kq60, q60a, q60b, q60c⟩ := isOf hZ hp59 (E_ADMIN.ext O0.2)
      obtain ⟨_, _, ⟨T60, L60, k60, n60⟩, -, X60, ⟨Lc60, hQ60, l60, y60, z60⟩, st60⟩ := X59.virtualBack hx (y := own_m1) (z := own_m1) hown (mvT hZ (own_w hw 9 rfl)) (mvT hZ (own_w hw 10 rfl)) (notFace_of_selects (args := #[]) (mvT hZ (own_w hw 12 rfl))) (mvT hZ (own_w hw 12 rfl)) (mvT hZ (own_w hw 11 rfl)) (by decide) (backOf (W := 0) (rm_f14 l Z a0 hw []  _ _ _ _ h0 n0 O0 hE) hZ (own_w hw 13 rfl) (own_w hw 5 rfl) (by decide) (by decide)) q60a q60c (g := (mkF m 47 #[.val (.int p0), .val (.int p1), .val (.int (2 : Int32)), .val (.int (1 : Int32)), .val (.int (0 : Int32))] [(.ref a_OWNERSHIP), (.ref a_ADMIN)])) rfl (by rw [hml]; rfl) (Steps.refl _) (argsL := [(.ref a_OWNERSHIP)]) (rest := []) (lenOf pd__Lcom_example_scoped_authority_scopedauthority_Authority__Z rfl) rfl (by show 2 * 0 + _ ≤ _; exact Nat.le_of_eq rfl) (hb hby at_47) (fun _ _ => ⟨rfl, hp59, (by decide : 0 + 0 ≤ _), (by decide : 0 + 0 ≤ _)⟩)
      dsimp only [Pt.U, Pt.locs, Pt.cells, Pt.slots] at X60 l60 y60 z60 st60 hQ60
      subst l60 y60 z60
      obtain ⟨rfl, N60q, hp60⟩ := hQ60
      have N60 := Fr.app N59 N60q
      have k61 : ∀ t, own_At p e below m T60 60 #[.val (.int p0), .val (.int p1), .val (.int (2 : Int32)), .val (.int (1 : Int32)), .val (.int (0 : Int32))] [(.int (1 : Int32))] t → own_En p e below m s₁ #[(.int p0), (.int p1)] maxLocals t := by
        intro t k
        refine k57 t ?_
        refine XS.istoreN X0.here hx rfl (hb hby at_7) rfl (l' := #[.val (.int p0), .val (.int p1), .val (.int (2 : Int32)), .val (.int (1 : Int32)), .unset]) rfl ?_
        show own_At p e below m s₁ 8 #[.val (.int p0), .val (.int p1), .val (.int (2 : Int32)), .val (.int (1 : Int32)), .unset] [] t
        refine XS.iloadN X0.here hx rfl (hb hby at_8) rfl ?_
        show own_At p e below m s₁ 9 #[.val (.int p0), .val (.int p1), .val (.int (2 : Int32)), .val (.int (1 : Int32)), .unset] [(.int (2 : Int32))] t
        refine XS.iloadN X0.here hx rfl (hb hby at_9) rfl ?_
        show own_At p e below m s₁ 10 #[.val (.int p0), .val (.int p1), .val (.int (2 : Int32)), .val (.int (1 : Int32)), .unset] [(.int (1 : Int32)), (.int (2 : Int32))] t
        refine XS.icmpNo X0.here hx rfl (hb hby at_10) rfl (feq (by decide : ¬ ((2 : Int32) = (1 : Int32)))).1 ?_
        show own_At p e below m s₁ 13 #[.val (.int p0), .val (.int p1), .val (.int (2 : Int32)), .val (.int (1 : Int32)), .unset] [] t
        refine XS.iloadN X0.here hx rfl (hb hby at_13) rfl ?_
        show own_At p e below m s₁ 14 #[.val (.int p0), .val (.int p1), .val (.int (2 : Int32)), .val (.int (1 : Int32)), .unset] [(.int (2 : Int32))] t
        refine XS.ifYes X0.here hx rfl (pc0 := 14) (pc' := 22) rfl (hb hby at_14) rfl ((if0 _ _).trans (feq (by decide : ¬ ((2 : Int32) = (0 : Int32)))).2) (by decide) (by decide) ?_
        show own_At p e below m s₁ 22 #[.val (.int p0), .val (.int p1), .val (.int (2 : Int32)), .val (.int (1 : Int32)), .unset] [] t
        refine XS.iloadN X0.here hx rfl (hb hby at_22) rfl ?_
        show own_At p e below m s₁ 23 #[.val (.int p0), .val (.int p1), .val (.int (2 : Int32)), .val (.int (1 : Int32)), .unset] [(.int (2 : Int32))] t
        refine XS.iconst X0.here hx rfl (hb hby at_23) ?_
        show own_At p e below m s₁ 24 #[.val (.int p0), .val (.int p1), .val (.int (2 : Int32)), .val (.int (1 : Int32)), .unset] [(.int (1 : Int32)), (.int (2 : Int32))] t
        refine XS.icmpYes X0.here hx rfl (pc0 := 24) (pc' := 36) rfl (hb hby at_24) rfl (feq (by decide : ¬ ((2 : Int32) = (1 : Int32)))).2 (by decide) (by decide) ?_
        show own_At p e below m s₁ 36 #[.val (.int p0), .val (.int p1), .val (.int (2 : Int32)), .val (.int (1 : Int32)), .unset] [] t
        refine XS.iconst X0.here hx rfl (hb hby at_36) ?_
        show own_At p e below m s₁ 37 #[.val (.int p0), .val (.int p1), .val (.int (2 : Int32)), .val (.int (1 : Int32)), .unset] [(.int (0 : Int32))] t
        refine XS.istore X0.here hx rfl (hb hby at_37) rfl (l' := #[.val (.int p0), .val (.int p1), .val (.int (2 : Int32)), .val (.int (1 : Int32)), .val (.int (0 : Int32))]) rfl ?_
        show own_At p e below m s₁ 39 #[.val (.int p0), .val (.int p1), .val (.int (2 : Int32)), .val (.int (1 : Int32)), .val (.int (0 : Int32))] [] t
        refine XS.iloadN X0.here hx rfl (hb hby at_39) rfl ?_
        show own_At p e below m s₁ 40 #[.val (.int p0), .val (.int p1), .val (.int (2 : Int32)), .val (.int (1 : Int32)), .val (.int (0 : Int32))] [(.int (2 : Int32))] t
        refine st58 _ ?_
        show own_At p e below m T58 43 #[.val (.int p0), .val (.int p1), .val (.int (2 : Int32)), .val (.int (1 : Int32)), .val (.int (0 : Int32))] [(.ref a_ADMIN)] t
        refine XS.iloadN X58.here hx rfl (hb hby at_43) rfl ?_
        show own_At p e below m T58 44 #[.val (.int p0), .val (.int p1), .val (.int (2 : Int32)), .val (.int (1 : Int32)), .val (.int (0 : Int32))] [(.int (1 : Int32)), (.ref a_ADMIN)] t
        refine st59 _ ?_
        show own_At p e below m T59 47 #[.val (.int p0), .val (.int p1), .val (.int (2 : Int32)), .val (.int (1 : Int32)), .val (.int (0 : Int32))] [(.ref a_OWNERSHIP), (.ref a_ADMIN)] t
        refine st60.trans ?_
        show own_At p e below m T60 50 #[.val (.int p0), .val (.int p1), .val (.int (2 : Int32)), .val (.int (1 : Int32)), .val (.int (0 : Int32))] [(.int (0 : Int32))] t
        refine XS.iload X60.here hx rfl (hb hby at_50) rfl ?_
        show own_At p e below m T60 52 #[.val (.int p0), .val (.int p1), .val (.int (2 : Int32)), .val (.int (1 : Int32)), .val (.int (0 : Int32))] [(.int (0 : Int32)), (.int (0 : Int32))] t
        refine XS.icmpNo X60.here hx rfl (hb hby at_52) rfl (teq (by decide : (0 : Int32) = (0 : Int32))).2 ?_
        show own_At p e below m T60 55 #[.val (.int p0), .val (.int p1), .val (.int (2 : Int32)), .val (.int (1 : Int32)), .val (.int (0 : Int32))] [] t
        refine XS.iconst X60.here hx rfl (hb hby at_55) ?_
        show own_At p e below m T60 56 #[.val (.int p0), .val (.int p1), .val (.int (2 : Int32)), .val (.int (1 : Int32)), .val (.int (0 : Int32))] [(.int (1 : Int32))] t
        refine XS.goto X60.here hx rfl (pc0 := 56) (pc' := 60) rfl (hb hby at_56) (by decide) (by decide) ?_
        show own_At p e below m T60 60 #[.val (.int p0), .val (.int p1), .val (.int (2 : Int32)), .val (.int (1 : Int32)), .val (.int (0 : Int32))] [(.int (1 : Int32))] t
        exact k
      obtain ⟨fs, hr, hrun, hended, hW, hsame⟩ := X60.leave (v := some (.int (1 : Int32))) (fun h => by rw [Bd.returns] at h; cases h)
      refine hNG ⟨_, _, k61 _ ?_, hrun, hended, _, _, rfl, ?_, ⟨_, rfl⟩, hW, hsame.mono (by decide) (by decide)⟩
      · exact retN X60 hx (t := .boolean) Bd.returns (by simp) (hb hby at_60) hr
      · show Q_law Z p0 p1 a_MANAGEMENT a_GIVE a_OWNERSHIP a_ADMIN h0 n0 _ T60.heap _
        rw [hp60]
        exact ⟨rfl, N60⟩
    · have k62 : ∀ t, own_At p e below m s₁ 7 #[.val (.int p0), .val (.int p1), .val (.int (2 : Int32)), .unset, .unset] [(.int (2 : Int32))] t → own_En p e below m s₁ #[(.int p0), (.int p1)] maxLocals t := by
        intro t k
        refine k50 t ?_
        rw [hs51]
        exact k
      obtain ⟨_, _, ⟨T63, L63, k63, n63⟩, -, X63, ⟨Lc63, hQ63, l63, y63, z63⟩, st63⟩ := Jvm.LawKit.callS X0 hx (y := own_m0) hown (mvT hZ (own_w hw 0 rfl)) (mvT hZ (own_w hw 1 rfl)) (mvT hZ (own_w hw 2 rfl)) (mvT hZ (own_w hw 3 rfl)) (by decide) (backOf (W := 0) (rm_f5 l Z a0 hw []  _ _ _ _ h0 n0 O0 hE) hZ (own_w hw 3 rfl) (own_w hw 2 rfl) (by decide) (by decide)) (g := (mkF m 40 #[.val (.int p0), .val (.int p1), .val (.int (2 : Int32)), .val (.int (2 : Int32)), .val (.int (1 : Int32))] [(.int (2 : Int32))])) rfl (by rw [hml]; rfl) (argsL := [(.int (2 : Int32))]) (rest := []) (lenOf pd__I_Lcom_example_scoped_authority_scopedauthority_Authority_ rfl) rfl (by show 2 * 0 + _ ≤ _; exact Nat.le_of_eq rfl) (hb hby at_40) (fun _ _ => ⟨rfl, e0, (by decide : 0 + 0 ≤ _), (by decide : 0 + 0 ≤ _)⟩)
      dsimp only [Pt.U, Pt.locs, Pt.cells, Pt.slots] at X63 l63 y63 z63 st63 hQ63
      subst l63 y63 z63
      obtain ⟨rfl, N63q, hp63⟩ := hQ63
      have N63 := Fr.app N0 N63q
      obtain ⟨_, _, ⟨T64, L64, k64, n64⟩, -, X64, ⟨Lc64, hQ64, l64, y64, z64⟩, st64⟩ := Jvm.LawKit.callS X63 hx (y := own_m0) hown (mvT hZ (own_w hw 0 rfl)) (mvT hZ (own_w hw 1 rfl)) (mvT hZ (own_w hw 2 rfl)) (mvT hZ (own_w hw 3 rfl)) (by decide) (backOf (W := 1) (rm_f5 l Z a0 hw []  _ _ _ _ h0 n0 O0 hE) hZ (own_w hw 3 rfl) (own_w hw 2 rfl) (by decide) (by decide)) (g := (mkF m 44 #[.val (.int p0), .val (.int p1), .val (.int (2 : Int32)), .val (.int (2 : Int32)), .val (.int (1 : Int32))] [(.int (2 : Int32)), (.ref a_ADMIN)])) rfl (by rw [hml]; rfl) (argsL := [(.int (2 : Int32))]) (rest := [(.ref a_ADMIN)]) (lenOf pd__I_Lcom_example_scoped_authority_scopedauthority_Authority_ rfl) rfl (by show 2 * 0 + _ ≤ _; exact Nat.le_of_eq rfl) (hb hby at_44) (fun _ _ => ⟨rfl, hp63, (by decide : 0 + 0 ≤ _), (by decide : 0 + 0 ≤ _)⟩)
      dsimp only [Pt.U, Pt.locs, Pt.cells, Pt.slots] at X64 l64 y64 z64 st64 hQ64
      subst l64 y64 z64
      obtain ⟨rfl, N64q, hp64⟩ := hQ64
      have N64 := Fr.app N63 N64q
      obtain ⟨cq65, kq65, q65a, q65b, q65c⟩ := isOf hZ hp64 (E_ADMIN.ext O0.2)
      obtain ⟨_, _, ⟨T65, L65, k65, n65⟩, -, X65, ⟨Lc65, hQ65, l65, y65, z65⟩, st65⟩ := X64.virtualBack hx (y := own_m1) (z := own_m1) hown (mvT hZ (own_w hw 9 rfl)) (mvT hZ (own_w hw 10 rfl)) (notFace_of_selects (args := #[]) (mvT hZ (own_w hw 12 rfl))) (mvT hZ (own_w hw 12 rfl)) (mvT hZ (own_w hw 11 rfl)) (by decide) (backOf (W := 0) (rm_f15 l Z a0 hw []  _ _ _ _ h0 n0 O0 hE) hZ (own_w hw 13 rfl) (own_w hw 5 rfl) (by decide) (by decide)) q65a q65c (g := (mkF m 47 #[.val (.int p0), .val (.int p1), .val (.int (2 : Int32)), .val (.int (2 : Int32)), .val (.int (1 : Int32))] [(.ref a_ADMIN), (.ref a_ADMIN)])) rfl (by rw [hml]; rfl) (Steps.refl _) (argsL := [(.ref a_ADMIN)]) (rest := []) (lenOf pd__Lcom_example_scoped_authority_scopedauthority_Authority__Z rfl) rfl (by show 2 * 0 + _ ≤ _; exact Nat.le_of_eq rfl) (hb hby at_47) (fun _ _ => ⟨rfl, hp64, (by decide : 0 + 0 ≤ _), (by decide : 0 + 0 ≤ _)⟩)
      dsimp only [Pt.U, Pt.locs, Pt.cells, Pt.slots] at X65 l65 y65 z65 st65 hQ65
      subst l65 y65 z65
      obtain ⟨rfl, N65q, hp65⟩ := hQ65
      have N65 := Fr.app N64 N65q
      have k66 : ∀ t, own_At p e below m T65 60 #[.val (.int p0), .val (.int p1), .val (.int (2 : Int32)), .val (.int (2 : Int32)), .val (.int (1 : Int32))] [(.int (1 : Int32))] t → own_En p e below m s₁ #[(.int p0), (.int p1)] maxLocals t := by
        intro t k
        refine k62 t ?_
        refine XS.istoreN X0.here hx rfl (hb hby at_7) rfl (l' := #[.val (.int p0), .val (.int p1), .val (.int (2 : Int32)), .val (.int (2 : Int32)), .unset]) rfl ?_
        show own_At p e below m s₁ 8 #[.val (.int p0), .val (.int p1), .val (.int (2 : Int32)), .val (.int (2 : Int32)), .unset] [] t
        refine XS.iloadN X0.here hx rfl (hb hby at_8) rfl ?_
        show own_At p e below m s₁ 9 #[.val (.int p0), .val (.int p1), .val (.int (2 : Int32)), .val (.int (2 : Int32)), .unset] [(.int (2 : Int32))] t
        refine XS.iloadN X0.here hx rfl (hb hby at_9) rfl ?_
        show own_At p e below m s₁ 10 #[.val (.int p0), .val (.int p1), .val (.int (2 : Int32)), .val (.int (2 : Int32)), .unset] [(.int (2 : Int32)), (.int (2 : Int32))] t
        refine XS.icmpYes X0.here hx rfl (pc0 := 10) (pc' := 32) rfl (hb hby at_10) rfl (teq (by decide : (2 : Int32) = (2 : Int32))).1 (by decide) (by decide) ?_
        show own_At p e below m s₁ 32 #[.val (.int p0), .val (.int p1), .val (.int (2 : Int32)), .val (.int (2 : Int32)), .unset] [] t
        refine XS.iconst X0.here hx rfl (hb hby at_32) ?_
        show own_At p e below m s₁ 33 #[.val (.int p0), .val (.int p1), .val (.int (2 : Int32)), .val (.int (2 : Int32)), .unset] [(.int (1 : Int32))] t
        refine XS.goto X0.here hx rfl (pc0 := 33) (pc' := 37) rfl (hb hby at_33) (by decide) (by decide) ?_
        show own_At p e below m s₁ 37 #[.val (.int p0), .val (.int p1), .val (.int (2 : Int32)), .val (.int (2 : Int32)), .unset] [(.int (1 : Int32))] t
        refine XS.istore X0.here hx rfl (hb hby at_37) rfl (l' := #[.val (.int p0), .val (.int p1), .val (.int (2 : Int32)), .val (.int (2 : Int32)), .val (.int (1 : Int32))]) rfl ?_
        show own_At p e below m s₁ 39 #[.val (.int p0), .val (.int p1), .val (.int (2 : Int32)), .val (.int (2 : Int32)), .val (.int (1 : Int32))] [] t
        refine XS.iloadN X0.here hx rfl (hb hby at_39) rfl ?_
        show own_At p e below m s₁ 40 #[.val (.int p0), .val (.int p1), .val (.int (2 : Int32)), .val (.int (2 : Int32)), .val (.int (1 : Int32))] [(.int (2 : Int32))] t
        refine st63 _ ?_
        show own_At p e below m T63 43 #[.val (.int p0), .val (.int p1), .val (.int (2 : Int32)), .val (.int (2 : Int32)), .val (.int (1 : Int32))] [(.ref a_ADMIN)] t
        refine XS.iloadN X63.here hx rfl (hb hby at_43) rfl ?_
        show own_At p e below m T63 44 #[.val (.int p0), .val (.int p1), .val (.int (2 : Int32)), .val (.int (2 : Int32)), .val (.int (1 : Int32))] [(.int (2 : Int32)), (.ref a_ADMIN)] t
        refine st64 _ ?_
        show own_At p e below m T64 47 #[.val (.int p0), .val (.int p1), .val (.int (2 : Int32)), .val (.int (2 : Int32)), .val (.int (1 : Int32))] [(.ref a_ADMIN), (.ref a_ADMIN)] t
        refine st65.trans ?_
        show own_At p e below m T65 50 #[.val (.int p0), .val (.int p1), .val (.int (2 : Int32)), .val (.int (2 : Int32)), .val (.int (1 : Int32))] [(.int (1 : Int32))] t
        refine XS.iload X65.here hx rfl (hb hby at_50) rfl ?_
        show own_At p e below m T65 52 #[.val (.int p0), .val (.int p1), .val (.int (2 : Int32)), .val (.int (2 : Int32)), .val (.int (1 : Int32))] [(.int (1 : Int32)), (.int (1 : Int32))] t
        refine XS.icmpNo X65.here hx rfl (hb hby at_52) rfl (teq (by decide : (1 : Int32) = (1 : Int32))).2 ?_
        show own_At p e below m T65 55 #[.val (.int p0), .val (.int p1), .val (.int (2 : Int32)), .val (.int (2 : Int32)), .val (.int (1 : Int32))] [] t
        refine XS.iconst X65.here hx rfl (hb hby at_55) ?_
        show own_At p e below m T65 56 #[.val (.int p0), .val (.int p1), .val (.int (2 : Int32)), .val (.int (2 : Int32)), .val (.int (1 : Int32))] [(.int (1 : Int32))] t
        refine XS.goto X65.here hx rfl (pc0 := 56) (pc' := 60) rfl (hb hby at_56) (by decide) (by decide) ?_
        show own_At p e below m T65 60 #[.val (.int p0), .val (.int p1), .val (.int (2 : Int32)), .val (.int (2 : Int32)), .val (.int (1 : Int32))] [(.int (1 : Int32))] t
        exact k
      obtain ⟨fs, hr, hrun, hended, hW, hsame⟩ := X65.leave (v := some (.int (1 : Int32))) (fun h => by rw [Bd.returns] at h; cases h)
      refine hNG ⟨_, _, k66 _ ?_, hrun, hended, _, _, rfl, ?_, ⟨_, rfl⟩, hW, hsame.mono (by decide) (by decide)⟩
      · exact retN X65 hx (t := .boolean) Bd.returns (by simp) (hb hby at_60) hr
      · show Q_law Z p0 p1 a_MANAGEMENT a_GIVE a_OWNERSHIP a_ADMIN h0 n0 _ T65.heap _
        rw [hp65]
        exact ⟨rfl, N65⟩
    · have k67 : ∀ t, own_At p e below m s₁ 7 #[.val (.int p0), .val (.int p1), .val (.int (2 : Int32)), .unset, .unset] [(.int (3 : Int32))] t → own_En p e below m s₁ #[(.int p0), (.int p1)] maxLocals t := by
        intro t k
        refine k50 t ?_
        rw [hs51]
        exact k
      obtain ⟨_, _, ⟨T68, L68, k68, n68⟩, -, X68, ⟨Lc68, hQ68, l68, y68, z68⟩, st68⟩ := Jvm.LawKit.callS X0 hx (y := own_m0) hown (mvT hZ (own_w hw 0 rfl)) (mvT hZ (own_w hw 1 rfl)) (mvT hZ (own_w hw 2 rfl)) (mvT hZ (own_w hw 3 rfl)) (by decide) (backOf (W := 0) (rm_f5 l Z a0 hw []  _ _ _ _ h0 n0 O0 hE) hZ (own_w hw 3 rfl) (own_w hw 2 rfl) (by decide) (by decide)) (g := (mkF m 40 #[.val (.int p0), .val (.int p1), .val (.int (2 : Int32)), .val (.int (3 : Int32)), .val (.int (0 : Int32))] [(.int (2 : Int32))])) rfl (by rw [hml]; rfl) (argsL := [(.int (2 : Int32))]) (rest := []) (lenOf pd__I_Lcom_example_scoped_authority_scopedauthority_Authority_ rfl) rfl (by show 2 * 0 + _ ≤ _; exact Nat.le_of_eq rfl) (hb hby at_40) (fun _ _ => ⟨rfl, e0, (by decide : 0 + 0 ≤ _), (by decide : 0 + 0 ≤ _)⟩)
      dsimp only [Pt.U, Pt.locs, Pt.cells, Pt.slots] at X68 l68 y68 z68 st68 hQ68
      subst l68 y68 z68
      obtain ⟨rfl, N68q, hp68⟩ := hQ68
      have N68 := Fr.app N0 N68q
      obtain ⟨_, _, ⟨T69, L69, k69, n69⟩, -, X69, ⟨Lc69, hQ69, l69, y69, z69⟩, st69⟩ := Jvm.LawKit.callS X68 hx (y := own_m0) hown (mvT hZ (own_w hw 0 rfl)) (mvT hZ (own_w hw 1 rfl)) (mvT hZ (own_w hw 2 rfl)) (mvT hZ (own_w hw 3 rfl)) (by decide) (backOf (W := 1) (rm_f7 l Z a0 hw []  _ _ _ _ h0 n0 O0 hE) hZ (own_w hw 3 rfl) (own_w hw 2 rfl) (by decide) (by decide)) (g := (mkF m 44 #[.val (.int p0), .val (.int p1), .val (.int (2 : Int32)), .val (.int (3 : Int32)), .val (.int (0 : Int32))] [(.int (3 : Int32)), (.ref a_ADMIN)])) rfl (by rw [hml]; rfl) (argsL := [(.int (3 : Int32))]) (rest := [(.ref a_ADMIN)]) (lenOf pd__I_Lcom_example_scoped_authority_scopedauthority_Authority_ rfl) rfl (by show 2 * 0 + _ ≤ _; exact Nat.le_of_eq rfl) (hb hby at_44) (fun _ _ => ⟨rfl, hp68, (by decide : 0 + 0 ≤ _), (by decide : 0 + 0 ≤ _)⟩)
      dsimp only [Pt.U, Pt.locs, Pt.cells, Pt.slots] at X69 l69 y69 z69 st69 hQ69
      subst l69 y69 z69
      obtain ⟨rfl, N69q, hp69⟩ := hQ69
      have N69 := Fr.app N68 N69q
      obtain ⟨cq70, kq70, q70a, q70b, q70c⟩ := isOf hZ hp69 (E_ADMIN.ext O0.2)
      obtain ⟨_, _, ⟨T70, L70, k70, n70⟩, -, X70, ⟨Lc70, hQ70, l70, y70, z70⟩, st70⟩ := X69.virtualBack hx (y := own_m1) (z := own_m1) hown (mvT hZ (own_w hw 9 rfl)) (mvT hZ (own_w hw 10 rfl)) (notFace_of_selects (args := #[]) (mvT hZ (own_w hw 12 rfl))) (mvT hZ (own_w hw 12 rfl)) (mvT hZ (own_w hw 11 rfl)) (by decide) (backOf (W := 0) (rm_f16 l Z a0 hw []  _ _ _ _ h0 n0 O0 hE) hZ (own_w hw 13 rfl) (own_w hw 5 rfl) (by decide) (by decide)) q70a q70c (g := (mkF m 47 #[.val (.int p0), .val (.int p1), .val (.int (2 : Int32)), .val (.int (3 : Int32)), .val (.int (0 : Int32))] [(.ref a_GIVE), (.ref a_ADMIN)])) rfl (by rw [hml]; rfl) (Steps.refl _) (argsL := [(.ref a_GIVE)]) (rest := []) (lenOf pd__Lcom_example_scoped_authority_scopedauthority_Authority__Z rfl) rfl (by show 2 * 0 + _ ≤ _; exact Nat.le_of_eq rfl) (hb hby at_47) (fun _ _ => ⟨rfl, hp69, (by decide : 0 + 0 ≤ _), (by decide : 0 + 0 ≤ _)⟩)
      dsimp only [Pt.U, Pt.locs, Pt.cells, Pt.slots] at X70 l70 y70 z70 st70 hQ70
      subst l70 y70 z70
      obtain ⟨rfl, N70q, hp70⟩ := hQ70
      have N70 := Fr.app N69 N70q
      have k71 : ∀ t, own_At p e below m T70 60 #[.val (.int p0), .val (.int p1), .val (.int (2 : Int32)), .val (.int (3 : Int32)), .val (.int (0 : Int32))] [(.int (1 : Int32))] t → own_En p e below m s₁ #[(.int p0), (.int p1)] maxLocals t := by
        intro t k
        refine k67 t ?_
        refine XS.istoreN X0.here hx rfl (hb hby at_7) rfl (l' := #[.val (.int p0), .val (.int p1), .val (.int (2 : Int32)), .val (.int (3 : Int32)), .unset]) rfl ?_
        show own_At p e below m s₁ 8 #[.val (.int p0), .val (.int p1), .val (.int (2 : Int32)), .val (.int (3 : Int32)), .unset] [] t
        refine XS.iloadN X0.here hx rfl (hb hby at_8) rfl ?_
        show own_At p e below m s₁ 9 #[.val (.int p0), .val (.int p1), .val (.int (2 : Int32)), .val (.int (3 : Int32)), .unset] [(.int (2 : Int32))] t
        refine XS.iloadN X0.here hx rfl (hb hby at_9) rfl ?_
        show own_At p e below m s₁ 10 #[.val (.int p0), .val (.int p1), .val (.int (2 : Int32)), .val (.int (3 : Int32)), .unset] [(.int (3 : Int32)), (.int (2 : Int32))] t
        refine XS.icmpNo X0.here hx rfl (hb hby at_10) rfl (feq (by decide : ¬ ((2 : Int32) = (3 : Int32)))).1 ?_
        show own_At p e below m s₁ 13 #[.val (.int p0), .val (.int p1), .val (.int (2 : Int32)), .val (.int (3 : Int32)), .unset] [] t
        refine XS.iloadN X0.here hx rfl (hb hby at_13) rfl ?_
        show own_At p e below m s₁ 14 #[.val (.int p0), .val (.int p1), .val (.int (2 : Int32)), .val (.int (3 : Int32)), .unset] [(.int (2 : Int32))] t
        refine XS.ifYes X0.here hx rfl (pc0 := 14) (pc' := 22) rfl (hb hby at_14) rfl ((if0 _ _).trans (feq (by decide : ¬ ((2 : Int32) = (0 : Int32)))).2) (by decide) (by decide) ?_
        show own_At p e below m s₁ 22 #[.val (.int p0), .val (.int p1), .val (.int (2 : Int32)), .val (.int (3 : Int32)), .unset] [] t
        refine XS.iloadN X0.here hx rfl (hb hby at_22) rfl ?_
        show own_At p e below m s₁ 23 #[.val (.int p0), .val (.int p1), .val (.int (2 : Int32)), .val (.int (3 : Int32)), .unset] [(.int (2 : Int32))] t
        refine XS.iconst X0.here hx rfl (hb hby at_23) ?_
        show own_At p e below m s₁ 24 #[.val (.int p0), .val (.int p1), .val (.int (2 : Int32)), .val (.int (3 : Int32)), .unset] [(.int (1 : Int32)), (.int (2 : Int32))] t
        refine XS.icmpYes X0.here hx rfl (pc0 := 24) (pc' := 36) rfl (hb hby at_24) rfl (feq (by decide : ¬ ((2 : Int32) = (1 : Int32)))).2 (by decide) (by decide) ?_
        show own_At p e below m s₁ 36 #[.val (.int p0), .val (.int p1), .val (.int (2 : Int32)), .val (.int (3 : Int32)), .unset] [] t
        refine XS.iconst X0.here hx rfl (hb hby at_36) ?_
        show own_At p e below m s₁ 37 #[.val (.int p0), .val (.int p1), .val (.int (2 : Int32)), .val (.int (3 : Int32)), .unset] [(.int (0 : Int32))] t
        refine XS.istore X0.here hx rfl (hb hby at_37) rfl (l' := #[.val (.int p0), .val (.int p1), .val (.int (2 : Int32)), .val (.int (3 : Int32)), .val (.int (0 : Int32))]) rfl ?_
        show own_At p e below m s₁ 39 #[.val (.int p0), .val (.int p1), .val (.int (2 : Int32)), .val (.int (3 : Int32)), .val (.int (0 : Int32))] [] t
        refine XS.iloadN X0.here hx rfl (hb hby at_39) rfl ?_
        show own_At p e below m s₁ 40 #[.val (.int p0), .val (.int p1), .val (.int (2 : Int32)), .val (.int (3 : Int32)), .val (.int (0 : Int32))] [(.int (2 : Int32))] t
        refine st68 _ ?_
        show own_At p e below m T68 43 #[.val (.int p0), .val (.int p1), .val (.int (2 : Int32)), .val (.int (3 : Int32)), .val (.int (0 : Int32))] [(.ref a_ADMIN)] t
        refine XS.iloadN X68.here hx rfl (hb hby at_43) rfl ?_
        show own_At p e below m T68 44 #[.val (.int p0), .val (.int p1), .val (.int (2 : Int32)), .val (.int (3 : Int32)), .val (.int (0 : Int32))] [(.int (3 : Int32)), (.ref a_ADMIN)] t
        refine st69 _ ?_
        show own_At p e below m T69 47 #[.val (.int p0), .val (.int p1), .val (.int (2 : Int32)), .val (.int (3 : Int32)), .val (.int (0 : Int32))] [(.ref a_GIVE), (.ref a_ADMIN)] t
        refine st70.trans ?_
        show own_At p e below m T70 50 #[.val (.int p0), .val (.int p1), .val (.int (2 : Int32)), .val (.int (3 : Int32)), .val (.int (0 : Int32))] [(.int (0 : Int32))] t
        refine XS.iload X70.here hx rfl (hb hby at_50) rfl ?_
        show own_At p e below m T70 52 #[.val (.int p0), .val (.int p1), .val (.int (2 : Int32)), .val (.int (3 : Int32)), .val (.int (0 : Int32))] [(.int (0 : Int32)), (.int (0 : Int32))] t
        refine XS.icmpNo X70.here hx rfl (hb hby at_52) rfl (teq (by decide : (0 : Int32) = (0 : Int32))).2 ?_
        show own_At p e below m T70 55 #[.val (.int p0), .val (.int p1), .val (.int (2 : Int32)), .val (.int (3 : Int32)), .val (.int (0 : Int32))] [] t
        refine XS.iconst X70.here hx rfl (hb hby at_55) ?_
        show own_At p e below m T70 56 #[.val (.int p0), .val (.int p1), .val (.int (2 : Int32)), .val (.int (3 : Int32)), .val (.int (0 : Int32))] [(.int (1 : Int32))] t
        refine XS.goto X70.here hx rfl (pc0 := 56) (pc' := 60) rfl (hb hby at_56) (by decide) (by decide) ?_
        show own_At p e below m T70 60 #[.val (.int p0), .val (.int p1), .val (.int (2 : Int32)), .val (.int (3 : Int32)), .val (.int (0 : Int32))] [(.int (1 : Int32))] t
        exact k
      obtain ⟨fs, hr, hrun, hended, hW, hsame⟩ := X70.leave (v := some (.int (1 : Int32))) (fun h => by rw [Bd.returns] at h; cases h)
      refine hNG ⟨_, _, k71 _ ?_, hrun, hended, _, _, rfl, ?_, ⟨_, rfl⟩, hW, hsame.mono (by decide) (by decide)⟩
      · exact retN X70 hx (t := .boolean) Bd.returns (by simp) (hb hby at_60) hr
      · show Q_law Z p0 p1 a_MANAGEMENT a_GIVE a_OWNERSHIP a_ADMIN h0 n0 _ T70.heap _
        rw [hp70]
        exact ⟨rfl, N70⟩
  · have k72 : ∀ t, own_At p e below m s₁ 3 #[.val (.int p0), .val (.int p1), .unset, .unset, .unset] [(.int (3 : Int32))] t → own_En p e below m s₁ #[(.int p0), (.int p1)] maxLocals t := by
      intro t k
      refine k1 t ?_
      rw [hs2]
      exact k
    have k73 : ∀ t, own_At p e below m s₁ 7 #[.val (.int p0), .val (.int p1), .val (.int (3 : Int32)), .unset, .unset] [(.int (p1 &&& (3 : Int32)))] t → own_En p e below m s₁ #[(.int p0), (.int p1)] maxLocals t := by
      intro t k
      refine k72 t ?_
      refine XS.istoreN X0.here hx rfl (hb hby at_3) rfl (l' := #[.val (.int p0), .val (.int p1), .val (.int (3 : Int32)), .unset, .unset]) rfl ?_
      show own_At p e below m s₁ 4 #[.val (.int p0), .val (.int p1), .val (.int (3 : Int32)), .unset, .unset] [] t
      refine XS.iloadN X0.here hx rfl (hb hby at_4) rfl ?_
      show own_At p e below m s₁ 5 #[.val (.int p0), .val (.int p1), .val (.int (3 : Int32)), .unset, .unset] [(.int p1)] t
      refine XS.iconst X0.here hx rfl (hb hby at_5) ?_
      show own_At p e below m s₁ 6 #[.val (.int p0), .val (.int p1), .val (.int (3 : Int32)), .unset, .unset] [(.int (3 : Int32)), (.int p1)] t
      refine XS.iand X0.here hx rfl (hb hby at_6) rfl ?_
      show own_At p e below m s₁ 7 #[.val (.int p0), .val (.int p1), .val (.int (3 : Int32)), .unset, .unset] [(.int (p1 &&& (3 : Int32)))] t
      exact k
    rcases own_and3 p1 with hs74 | hs74 | hs74 | hs74
    · have k75 : ∀ t, own_At p e below m s₁ 7 #[.val (.int p0), .val (.int p1), .val (.int (3 : Int32)), .unset, .unset] [(.int (0 : Int32))] t → own_En p e below m s₁ #[(.int p0), (.int p1)] maxLocals t := by
        intro t k
        refine k73 t ?_
        rw [hs74]
        exact k
      obtain ⟨_, _, ⟨T76, L76, k76, n76⟩, -, X76, ⟨Lc76, hQ76, l76, y76, z76⟩, st76⟩ := Jvm.LawKit.callS X0 hx (y := own_m0) hown (mvT hZ (own_w hw 0 rfl)) (mvT hZ (own_w hw 1 rfl)) (mvT hZ (own_w hw 2 rfl)) (mvT hZ (own_w hw 3 rfl)) (by decide) (backOf (W := 0) (rm_f7 l Z a0 hw []  _ _ _ _ h0 n0 O0 hE) hZ (own_w hw 3 rfl) (own_w hw 2 rfl) (by decide) (by decide)) (g := (mkF m 40 #[.val (.int p0), .val (.int p1), .val (.int (3 : Int32)), .val (.int (0 : Int32)), .val (.int (0 : Int32))] [(.int (3 : Int32))])) rfl (by rw [hml]; rfl) (argsL := [(.int (3 : Int32))]) (rest := []) (lenOf pd__I_Lcom_example_scoped_authority_scopedauthority_Authority_ rfl) rfl (by show 2 * 0 + _ ≤ _; exact Nat.le_of_eq rfl) (hb hby at_40) (fun _ _ => ⟨rfl, e0, (by decide : 0 + 0 ≤ _), (by decide : 0 + 0 ≤ _)⟩)
      dsimp only [Pt.U, Pt.locs, Pt.cells, Pt.slots] at X76 l76 y76 z76 st76 hQ76
      subst l76 y76 z76
      obtain ⟨rfl, N76q, hp76⟩ := hQ76
      have N76 := Fr.app N0 N76q
      obtain ⟨_, _, ⟨T77, L77, k77, n77⟩, -, X77, ⟨Lc77, hQ77, l77, y77, z77⟩, st77⟩ := Jvm.LawKit.callS X76 hx (y := own_m0) hown (mvT hZ (own_w hw 0 rfl)) (mvT hZ (own_w hw 1 rfl)) (mvT hZ (own_w hw 2 rfl)) (mvT hZ (own_w hw 3 rfl)) (by decide) (backOf (W := 1) (rm_f1 l Z a0 hw []  _ _ _ _ h0 n0 O0 hE) hZ (own_w hw 3 rfl) (own_w hw 2 rfl) (by decide) (by decide)) (g := (mkF m 44 #[.val (.int p0), .val (.int p1), .val (.int (3 : Int32)), .val (.int (0 : Int32)), .val (.int (0 : Int32))] [(.int (0 : Int32)), (.ref a_GIVE)])) rfl (by rw [hml]; rfl) (argsL := [(.int (0 : Int32))]) (rest := [(.ref a_GIVE)]) (lenOf pd__I_Lcom_example_scoped_authority_scopedauthority_Authority_ rfl) rfl (by show 2 * 0 + _ ≤ _; exact Nat.le_of_eq rfl) (hb hby at_44) (fun _ _ => ⟨rfl, hp76, (by decide : 0 + 0 ≤ _), (by decide : 0 + 0 ≤ _)⟩)
      dsimp only [Pt.U, Pt.locs, Pt.cells, Pt.slots] at X77 l77 y77 z77 st77 hQ77
      subst l77 y77 z77
      obtain ⟨rfl, N77q, hp77⟩ := hQ77
      have N77 := Fr.app N76 N77q
      obtain ⟨cq78, kq78, q78a, q78b, q78c⟩ := isOf hZ hp77 (E_GIVE.ext O0.2)
      obtain ⟨_, _, ⟨T78, L78, k78, n78⟩, -, X78, ⟨Lc78, hQ78, l78, y78, z78⟩, st78⟩ := X77.virtualBack hx (y := own_m1) (z := own_m1) hown (mvT hZ (own_w hw 9 rfl)) (mvT hZ (own_w hw 10 rfl)) (notFace_of_selects (args := #[]) (mvT hZ (own_w hw 12 rfl))) (mvT hZ (own_w hw 12 rfl)) (mvT hZ (own_w hw 11 rfl)) (by decide) (backOf (W := 0) (rm_f17 l Z a0 hw []  _ _ _ _ h0 n0 O0 hE) hZ (own_w hw 13 rfl) (own_w hw 5 rfl) (by decide) (by decide)) q78a q78c (g := (mkF m 47 #[.val (.int p0), .val (.int p1), .val (.int (3 : Int32)), .val (.int (0 : Int32)), .val (.int (0 : Int32))] [(.ref a_MANAGEMENT), (.ref a_GIVE)])) rfl (by rw [hml]; rfl) (Steps.refl _) (argsL := [(.ref a_MANAGEMENT)]) (rest := []) (lenOf pd__Lcom_example_scoped_authority_scopedauthority_Authority__Z rfl) rfl (by show 2 * 0 + _ ≤ _; exact Nat.le_of_eq rfl) (hb hby at_47) (fun _ _ => ⟨rfl, hp77, (by decide : 0 + 0 ≤ _), (by decide : 0 + 0 ≤ _)⟩)
      dsimp only [Pt.U, Pt.locs, Pt.cells, Pt.slots] at X78 l78 y78 z78 st78 hQ78
      subst l78 y78 z78
      obtain ⟨rfl, N78q, hp78⟩ := hQ78
      have N78 := Fr.app N77 N78q
      have k79 : ∀ t, own_At p e below m T78 60 #[.val (.int p0), .val (.int p1), .val (.int (3 : Int32)), .val (.int (0 : Int32)), .val (.int (0 : Int32))] [(.int (1 : Int32))] t → own_En p e below m s₁ #[(.int p0), (.int p1)] maxLocals t := by
        intro t k
        refine k75 t ?_
        refine XS.istoreN X0.here hx rfl (hb hby at_7) rfl (l' := #[.val (.int p0), .val (.int p1), .val (.int (3 : Int32)), .val (.int (0 : Int32)), .unset]) rfl ?_
        show own_At p e below m s₁ 8 #[.val (.int p0), .val (.int p1), .val (.int (3 : Int32)), .val (.int (0 : Int32)), .unset] [] t
        refine XS.iloadN X0.here hx rfl (hb hby at_8) rfl ?_
        show own_At p e below m s₁ 9 #[.val (.int p0), .val (.int p1), .val (.int (3 : Int32)), .val (.int (0 : Int32)), .unset] [(.int (3 : Int32))] t
        refine XS.iloadN X0.here hx rfl (hb hby at_9) rfl ?_
        show own_At p e below m s₁ 10 #[.val (.int p0), .val (.int p1), .val (.int (3 : Int32)), .val (.int (0 : Int32)), .unset] [(.int (0 : Int32)), (.int (3 : Int32))] t
        refine XS.icmpNo X0.here hx rfl (hb hby at_10) rfl (feq (by decide : ¬ ((3 : Int32) = (0 : Int32)))).1 ?_
        show own_At p e below m s₁ 13 #[.val (.int p0), .val (.int p1), .val (.int (3 : Int32)), .val (.int (0 : Int32)), .unset] [] t
        refine XS.iloadN X0.here hx rfl (hb hby at_13) rfl ?_
        show own_At p e below m s₁ 14 #[.val (.int p0), .val (.int p1), .val (.int (3 : Int32)), .val (.int (0 : Int32)), .unset] [(.int (3 : Int32))] t
        refine XS.ifYes X0.here hx rfl (pc0 := 14) (pc' := 22) rfl (hb hby at_14) rfl ((if0 _ _).trans (feq (by decide : ¬ ((3 : Int32) = (0 : Int32)))).2) (by decide) (by decide) ?_
        show own_At p e below m s₁ 22 #[.val (.int p0), .val (.int p1), .val (.int (3 : Int32)), .val (.int (0 : Int32)), .unset] [] t
        refine XS.iloadN X0.here hx rfl (hb hby at_22) rfl ?_
        show own_At p e below m s₁ 23 #[.val (.int p0), .val (.int p1), .val (.int (3 : Int32)), .val (.int (0 : Int32)), .unset] [(.int (3 : Int32))] t
        refine XS.iconst X0.here hx rfl (hb hby at_23) ?_
        show own_At p e below m s₁ 24 #[.val (.int p0), .val (.int p1), .val (.int (3 : Int32)), .val (.int (0 : Int32)), .unset] [(.int (1 : Int32)), (.int (3 : Int32))] t
        refine XS.icmpYes X0.here hx rfl (pc0 := 24) (pc' := 36) rfl (hb hby at_24) rfl (feq (by decide : ¬ ((3 : Int32) = (1 : Int32)))).2 (by decide) (by decide) ?_
        show own_At p e below m s₁ 36 #[.val (.int p0), .val (.int p1), .val (.int (3 : Int32)), .val (.int (0 : Int32)), .unset] [] t
        refine XS.iconst X0.here hx rfl (hb hby at_36) ?_
        show own_At p e below m s₁ 37 #[.val (.int p0), .val (.int p1), .val (.int (3 : Int32)), .val (.int (0 : Int32)), .unset] [(.int (0 : Int32))] t
        refine XS.istore X0.here hx rfl (hb hby at_37) rfl (l' := #[.val (.int p0), .val (.int p1), .val (.int (3 : Int32)), .val (.int (0 : Int32)), .val (.int (0 : Int32))]) rfl ?_
        show own_At p e below m s₁ 39 #[.val (.int p0), .val (.int p1), .val (.int (3 : Int32)), .val (.int (0 : Int32)), .val (.int (0 : Int32))] [] t
        refine XS.iloadN X0.here hx rfl (hb hby at_39) rfl ?_
        show own_At p e below m s₁ 40 #[.val (.int p0), .val (.int p1), .val (.int (3 : Int32)), .val (.int (0 : Int32)), .val (.int (0 : Int32))] [(.int (3 : Int32))] t
        refine st76 _ ?_
        show own_At p e below m T76 43 #[.val (.int p0), .val (.int p1), .val (.int (3 : Int32)), .val (.int (0 : Int32)), .val (.int (0 : Int32))] [(.ref a_GIVE)] t
        refine XS.iloadN X76.here hx rfl (hb hby at_43) rfl ?_
        show own_At p e below m T76 44 #[.val (.int p0), .val (.int p1), .val (.int (3 : Int32)), .val (.int (0 : Int32)), .val (.int (0 : Int32))] [(.int (0 : Int32)), (.ref a_GIVE)] t
        refine st77 _ ?_
        show own_At p e below m T77 47 #[.val (.int p0), .val (.int p1), .val (.int (3 : Int32)), .val (.int (0 : Int32)), .val (.int (0 : Int32))] [(.ref a_MANAGEMENT), (.ref a_GIVE)] t
        refine st78.trans ?_
        show own_At p e below m T78 50 #[.val (.int p0), .val (.int p1), .val (.int (3 : Int32)), .val (.int (0 : Int32)), .val (.int (0 : Int32))] [(.int (0 : Int32))] t
        refine XS.iload X78.here hx rfl (hb hby at_50) rfl ?_
        show own_At p e below m T78 52 #[.val (.int p0), .val (.int p1), .val (.int (3 : Int32)), .val (.int (0 : Int32)), .val (.int (0 : Int32))] [(.int (0 : Int32)), (.int (0 : Int32))] t
        refine XS.icmpNo X78.here hx rfl (hb hby at_52) rfl (teq (by decide : (0 : Int32) = (0 : Int32))).2 ?_
        show own_At p e below m T78 55 #[.val (.int p0), .val (.int p1), .val (.int (3 : Int32)), .val (.int (0 : Int32)), .val (.int (0 : Int32))] [] t
        refine XS.iconst X78.here hx rfl (hb hby at_55) ?_
        show own_At p e below m T78 56 #[.val (.int p0), .val (.int p1), .val (.int (3 : Int32)), .val (.int (0 : Int32)), .val (.int (0 : Int32))] [(.int (1 : Int32))] t
        refine XS.goto X78.here hx rfl (pc0 := 56) (pc' := 60) rfl (hb hby at_56) (by decide) (by decide) ?_
        show own_At p e below m T78 60 #[.val (.int p0), .val (.int p1), .val (.int (3 : Int32)), .val (.int (0 : Int32)), .val (.int (0 : Int32))] [(.int (1 : Int32))] t
        exact k
      obtain ⟨fs, hr, hrun, hended, hW, hsame⟩ := X78.leave (v := some (.int (1 : Int32))) (fun h => by rw [Bd.returns] at h; cases h)
      refine hNG ⟨_, _, k79 _ ?_, hrun, hended, _, _, rfl, ?_, ⟨_, rfl⟩, hW, hsame.mono (by decide) (by decide)⟩
      · exact retN X78 hx (t := .boolean) Bd.returns (by simp) (hb hby at_60) hr
      · show Q_law Z p0 p1 a_MANAGEMENT a_GIVE a_OWNERSHIP a_ADMIN h0 n0 _ T78.heap _
        rw [hp78]
        exact ⟨rfl, N78⟩
    · have k80 : ∀ t, own_At p e below m s₁ 7 #[.val (.int p0), .val (.int p1), .val (.int (3 : Int32)), .unset, .unset] [(.int (1 : Int32))] t → own_En p e below m s₁ #[(.int p0), (.int p1)] maxLocals t := by
        intro t k
        refine k73 t ?_
        rw [hs74]
        exact k
      obtain ⟨_, _, ⟨T81, L81, k81, n81⟩, -, X81, ⟨Lc81, hQ81, l81, y81, z81⟩, st81⟩ := Jvm.LawKit.callS X0 hx (y := own_m0) hown (mvT hZ (own_w hw 0 rfl)) (mvT hZ (own_w hw 1 rfl)) (mvT hZ (own_w hw 2 rfl)) (mvT hZ (own_w hw 3 rfl)) (by decide) (backOf (W := 0) (rm_f7 l Z a0 hw []  _ _ _ _ h0 n0 O0 hE) hZ (own_w hw 3 rfl) (own_w hw 2 rfl) (by decide) (by decide)) (g := (mkF m 40 #[.val (.int p0), .val (.int p1), .val (.int (3 : Int32)), .val (.int (1 : Int32)), .val (.int (0 : Int32))] [(.int (3 : Int32))])) rfl (by rw [hml]; rfl) (argsL := [(.int (3 : Int32))]) (rest := []) (lenOf pd__I_Lcom_example_scoped_authority_scopedauthority_Authority_ rfl) rfl (by show 2 * 0 + _ ≤ _; exact Nat.le_of_eq rfl) (hb hby at_40) (fun _ _ => ⟨rfl, e0, (by decide : 0 + 0 ≤ _), (by decide : 0 + 0 ≤ _)⟩)
      dsimp only [Pt.U, Pt.locs, Pt.cells, Pt.slots] at X81 l81 y81 z81 st81 hQ81
      subst l81 y81 z81
      obtain ⟨rfl, N81q, hp81⟩ := hQ81
      have N81 := Fr.app N0 N81q
      obtain ⟨_, _, ⟨T82, L82, k82, n82⟩, -, X82, ⟨Lc82, hQ82, l82, y82, z82⟩, st82⟩ := Jvm.LawKit.callS X81 hx (y := own_m0) hown (mvT hZ (own_w hw 0 rfl)) (mvT hZ (own_w hw 1 rfl)) (mvT hZ (own_w hw 2 rfl)) (mvT hZ (own_w hw 3 rfl)) (by decide) (backOf (W := 1) (rm_f3 l Z a0 hw []  _ _ _ _ h0 n0 O0 hE) hZ (own_w hw 3 rfl) (own_w hw 2 rfl) (by decide) (by decide)) (g := (mkF m 44 #[.val (.int p0), .val (.int p1), .val (.int (3 : Int32)), .val (.int (1 : Int32)), .val (.int (0 : Int32))] [(.int (1 : Int32)), (.ref a_GIVE)])) rfl (by rw [hml]; rfl) (argsL := [(.int (1 : Int32))]) (rest := [(.ref a_GIVE)]) (lenOf pd__I_Lcom_example_scoped_authority_scopedauthority_Authority_ rfl) rfl (by show 2 * 0 + _ ≤ _; exact Nat.le_of_eq rfl) (hb hby at_44) (fun _ _ => ⟨rfl, hp81, (by decide : 0 + 0 ≤ _), (by decide : 0 + 0 ≤ _)⟩)
      dsimp only [Pt.U, Pt.locs, Pt.cells, Pt.slots] at X82 l82 y82 z82 st82 hQ82
      subst l82 y82 z82
      obtain ⟨rfl, N82q, hp82⟩ := hQ82
      have N82 := Fr.app N81 N82q
      obtain ⟨cq83, kq83, q83a, q83b, q83c⟩ := isOf hZ hp82 (E_GIVE.ext O0.2)
      obtain ⟨_, _, ⟨T83, L83, k83, n83⟩, -, X83, ⟨Lc83, hQ83, l83, y83, z83⟩, st83⟩ := X82.virtualBack hx (y := own_m1) (z := own_m1) hown (mvT hZ (own_w hw 9 rfl)) (mvT hZ (own_w hw 10 rfl)) (notFace_of_selects (args := #[]) (mvT hZ (own_w hw 12 rfl))) (mvT hZ (own_w hw 12 rfl)) (mvT hZ (own_w hw 11 rfl)) (by decide) (backOf (W := 0) (rm_f18 l Z a0 hw []  _ _ _ _ h0 n0 O0 hE) hZ (own_w hw 13 rfl) (own_w hw 5 rfl) (by decide) (by decide)) q83a q83c (g := (mkF m 47 #[.val (.int p0), .val (.int p1), .val (.int (3 : Int32)), .val (.int (1 : Int32)), .val (.int (0 : Int32))] [(.ref a_OWNERSHIP), (.ref a_GIVE)])) rfl (by rw [hml]; rfl) (Steps.refl _) (argsL := [(.ref a_OWNERSHIP)]) (rest := []) (lenOf pd__Lcom_example_scoped_authority_scopedauthority_Authority__Z rfl) rfl (by show 2 * 0 + _ ≤ _; exact Nat.le_of_eq rfl) (hb hby at_47) (fun _ _ => ⟨rfl, hp82, (by decide : 0 + 0 ≤ _), (by decide : 0 + 0 ≤ _)⟩)
      dsimp only [Pt.U, Pt.locs, Pt.cells, Pt.slots] at X83 l83 y83 z83 st83 hQ83
      subst l83 y83 z83
      obtain ⟨rfl, N83q, hp83⟩ := hQ83
      have N83 := Fr.app N82 N83q
      have k84 : ∀ t, own_At p e below m T83 60 #[.val (.int p0), .val (.int p1), .val (.int (3 : Int32)), .val (.int (1 : Int32)), .val (.int (0 : Int32))] [(.int (1 : Int32))] t → own_En p e below m s₁ #[(.int p0), (.int p1)] maxLocals t := by
        intro t k
        refine k80 t ?_
        refine XS.istoreN X0.here hx rfl (hb hby at_7) rfl (l' := #[.val (.int p0), .val (.int p1), .val (.int (3 : Int32)), .val (.int (1 : Int32)), .unset]) rfl ?_
        show own_At p e below m s₁ 8 #[.val (.int p0), .val (.int p1), .val (.int (3 : Int32)), .val (.int (1 : Int32)), .unset] [] t
        refine XS.iloadN X0.here hx rfl (hb hby at_8) rfl ?_
        show own_At p e below m s₁ 9 #[.val (.int p0), .val (.int p1), .val (.int (3 : Int32)), .val (.int (1 : Int32)), .unset] [(.int (3 : Int32))] t
        refine XS.iloadN X0.here hx rfl (hb hby at_9) rfl ?_
        show own_At p e below m s₁ 10 #[.val (.int p0), .val (.int p1), .val (.int (3 : Int32)), .val (.int (1 : Int32)), .unset] [(.int (1 : Int32)), (.int (3 : Int32))] t
        refine XS.icmpNo X0.here hx rfl (hb hby at_10) rfl (feq (by decide : ¬ ((3 : Int32) = (1 : Int32)))).1 ?_
        show own_At p e below m s₁ 13 #[.val (.int p0), .val (.int p1), .val (.int (3 : Int32)), .val (.int (1 : Int32)), .unset] [] t
        refine XS.iloadN X0.here hx rfl (hb hby at_13) rfl ?_
        show own_At p e below m s₁ 14 #[.val (.int p0), .val (.int p1), .val (.int (3 : Int32)), .val (.int (1 : Int32)), .unset] [(.int (3 : Int32))] t
        refine XS.ifYes X0.here hx rfl (pc0 := 14) (pc' := 22) rfl (hb hby at_14) rfl ((if0 _ _).trans (feq (by decide : ¬ ((3 : Int32) = (0 : Int32)))).2) (by decide) (by decide) ?_
        show own_At p e below m s₁ 22 #[.val (.int p0), .val (.int p1), .val (.int (3 : Int32)), .val (.int (1 : Int32)), .unset] [] t
        refine XS.iloadN X0.here hx rfl (hb hby at_22) rfl ?_
        show own_At p e below m s₁ 23 #[.val (.int p0), .val (.int p1), .val (.int (3 : Int32)), .val (.int (1 : Int32)), .unset] [(.int (3 : Int32))] t
        refine XS.iconst X0.here hx rfl (hb hby at_23) ?_
        show own_At p e below m s₁ 24 #[.val (.int p0), .val (.int p1), .val (.int (3 : Int32)), .val (.int (1 : Int32)), .unset] [(.int (1 : Int32)), (.int (3 : Int32))] t
        refine XS.icmpYes X0.here hx rfl (pc0 := 24) (pc' := 36) rfl (hb hby at_24) rfl (feq (by decide : ¬ ((3 : Int32) = (1 : Int32)))).2 (by decide) (by decide) ?_
        show own_At p e below m s₁ 36 #[.val (.int p0), .val (.int p1), .val (.int (3 : Int32)), .val (.int (1 : Int32)), .unset] [] t
        refine XS.iconst X0.here hx rfl (hb hby at_36) ?_
        show own_At p e below m s₁ 37 #[.val (.int p0), .val (.int p1), .val (.int (3 : Int32)), .val (.int (1 : Int32)), .unset] [(.int (0 : Int32))] t
        refine XS.istore X0.here hx rfl (hb hby at_37) rfl (l' := #[.val (.int p0), .val (.int p1), .val (.int (3 : Int32)), .val (.int (1 : Int32)), .val (.int (0 : Int32))]) rfl ?_
        show own_At p e below m s₁ 39 #[.val (.int p0), .val (.int p1), .val (.int (3 : Int32)), .val (.int (1 : Int32)), .val (.int (0 : Int32))] [] t
        refine XS.iloadN X0.here hx rfl (hb hby at_39) rfl ?_
        show own_At p e below m s₁ 40 #[.val (.int p0), .val (.int p1), .val (.int (3 : Int32)), .val (.int (1 : Int32)), .val (.int (0 : Int32))] [(.int (3 : Int32))] t
        refine st81 _ ?_
        show own_At p e below m T81 43 #[.val (.int p0), .val (.int p1), .val (.int (3 : Int32)), .val (.int (1 : Int32)), .val (.int (0 : Int32))] [(.ref a_GIVE)] t
        refine XS.iloadN X81.here hx rfl (hb hby at_43) rfl ?_
        show own_At p e below m T81 44 #[.val (.int p0), .val (.int p1), .val (.int (3 : Int32)), .val (.int (1 : Int32)), .val (.int (0 : Int32))] [(.int (1 : Int32)), (.ref a_GIVE)] t
        refine st82 _ ?_
        show own_At p e below m T82 47 #[.val (.int p0), .val (.int p1), .val (.int (3 : Int32)), .val (.int (1 : Int32)), .val (.int (0 : Int32))] [(.ref a_OWNERSHIP), (.ref a_GIVE)] t
        refine st83.trans ?_
        show own_At p e below m T83 50 #[.val (.int p0), .val (.int p1), .val (.int (3 : Int32)), .val (.int (1 : Int32)), .val (.int (0 : Int32))] [(.int (0 : Int32))] t
        refine XS.iload X83.here hx rfl (hb hby at_50) rfl ?_
        show own_At p e below m T83 52 #[.val (.int p0), .val (.int p1), .val (.int (3 : Int32)), .val (.int (1 : Int32)), .val (.int (0 : Int32))] [(.int (0 : Int32)), (.int (0 : Int32))] t
        refine XS.icmpNo X83.here hx rfl (hb hby at_52) rfl (teq (by decide : (0 : Int32) = (0 : Int32))).2 ?_
        show own_At p e below m T83 55 #[.val (.int p0), .val (.int p1), .val (.int (3 : Int32)), .val (.int (1 : Int32)), .val (.int (0 : Int32))] [] t
        refine XS.iconst X83.here hx rfl (hb hby at_55) ?_
        show own_At p e below m T83 56 #[.val (.int p0), .val (.int p1), .val (.int (3 : Int32)), .val (.int (1 : Int32)), .val (.int (0 : Int32))] [(.int (1 : Int32))] t
        refine XS.goto X83.here hx rfl (pc0 := 56) (pc' := 60) rfl (hb hby at_56) (by decide) (by decide) ?_
        show own_At p e below m T83 60 #[.val (.int p0), .val (.int p1), .val (.int (3 : Int32)), .val (.int (1 : Int32)), .val (.int (0 : Int32))] [(.int (1 : Int32))] t
        exact k
      obtain ⟨fs, hr, hrun, hended, hW, hsame⟩ := X83.leave (v := some (.int (1 : Int32))) (fun h => by rw [Bd.returns] at h; cases h)
      refine hNG ⟨_, _, k84 _ ?_, hrun, hended, _, _, rfl, ?_, ⟨_, rfl⟩, hW, hsame.mono (by decide) (by decide)⟩
      · exact retN X83 hx (t := .boolean) Bd.returns (by simp) (hb hby at_60) hr
      · show Q_law Z p0 p1 a_MANAGEMENT a_GIVE a_OWNERSHIP a_ADMIN h0 n0 _ T83.heap _
        rw [hp83]
        exact ⟨rfl, N83⟩
    · have k85 : ∀ t, own_At p e below m s₁ 7 #[.val (.int p0), .val (.int p1), .val (.int (3 : Int32)), .unset, .unset] [(.int (2 : Int32))] t → own_En p e below m s₁ #[(.int p0), (.int p1)] maxLocals t := by
        intro t k
        refine k73 t ?_
        rw [hs74]
        exact k
      obtain ⟨_, _, ⟨T86, L86, k86, n86⟩, -, X86, ⟨Lc86, hQ86, l86, y86, z86⟩, st86⟩ := Jvm.LawKit.callS X0 hx (y := own_m0) hown (mvT hZ (own_w hw 0 rfl)) (mvT hZ (own_w hw 1 rfl)) (mvT hZ (own_w hw 2 rfl)) (mvT hZ (own_w hw 3 rfl)) (by decide) (backOf (W := 0) (rm_f7 l Z a0 hw []  _ _ _ _ h0 n0 O0 hE) hZ (own_w hw 3 rfl) (own_w hw 2 rfl) (by decide) (by decide)) (g := (mkF m 40 #[.val (.int p0), .val (.int p1), .val (.int (3 : Int32)), .val (.int (2 : Int32)), .val (.int (0 : Int32))] [(.int (3 : Int32))])) rfl (by rw [hml]; rfl) (argsL := [(.int (3 : Int32))]) (rest := []) (lenOf pd__I_Lcom_example_scoped_authority_scopedauthority_Authority_ rfl) rfl (by show 2 * 0 + _ ≤ _; exact Nat.le_of_eq rfl) (hb hby at_40) (fun _ _ => ⟨rfl, e0, (by decide : 0 + 0 ≤ _), (by decide : 0 + 0 ≤ _)⟩)
      dsimp only [Pt.U, Pt.locs, Pt.cells, Pt.slots] at X86 l86 y86 z86 st86 hQ86
      subst l86 y86 z86
      obtain ⟨rfl, N86q, hp86⟩ := hQ86
      have N86 := Fr.app N0 N86q
      obtain ⟨_, _, ⟨T87, L87, k87, n87⟩, -, X87, ⟨Lc87, hQ87, l87, y87, z87⟩, st87⟩ := Jvm.LawKit.callS X86 hx (y := own_m0) hown (mvT hZ (own_w hw 0 rfl)) (mvT hZ (own_w hw 1 rfl)) (mvT hZ (own_w hw 2 rfl)) (mvT hZ (own_w hw 3 rfl)) (by decide) (backOf (W := 1) (rm_f5 l Z a0 hw []  _ _ _ _ h0 n0 O0 hE) hZ (own_w hw 3 rfl) (own_w hw 2 rfl) (by decide) (by decide)) (g := (mkF m 44 #[.val (.int p0), .val (.int p1), .val (.int (3 : Int32)), .val (.int (2 : Int32)), .val (.int (0 : Int32))] [(.int (2 : Int32)), (.ref a_GIVE)])) rfl (by rw [hml]; rfl) (argsL := [(.int (2 : Int32))]) (rest := [(.ref a_GIVE)]) (lenOf pd__I_Lcom_example_scoped_authority_scopedauthority_Authority_ rfl) rfl (by show 2 * 0 + _ ≤ _; exact Nat.le_of_eq rfl) (hb hby at_44) (fun _ _ => ⟨rfl, hp86, (by decide : 0 + 0 ≤ _), (by decide : 0 + 0 ≤ _)⟩)
      dsimp only [Pt.U, Pt.locs, Pt.cells, Pt.slots] at X87 l87 y87 z87 st87 hQ87
      subst l87 y87 z87
      obtain ⟨rfl, N87q, hp87⟩ := hQ87
      have N87 := Fr.app N86 N87q
      obtain ⟨cq88, kq88, q88a, q88b, q88c⟩ := isOf hZ hp87 (E_GIVE.ext O0.2)
      obtain ⟨_, _, ⟨T88, L88, k88, n88⟩, -, X88, ⟨Lc88, hQ88, l88, y88, z88⟩, st88⟩ := X87.virtualBack hx (y := own_m1) (z := own_m1) hown (mvT hZ (own_w hw 9 rfl)) (mvT hZ (own_w hw 10 rfl)) (notFace_of_selects (args := #[]) (mvT hZ (own_w hw 12 rfl))) (mvT hZ (own_w hw 12 rfl)) (mvT hZ (own_w hw 11 rfl)) (by decide) (backOf (W := 0) (rm_f19 l Z a0 hw []  _ _ _ _ h0 n0 O0 hE) hZ (own_w hw 13 rfl) (own_w hw 5 rfl) (by decide) (by decide)) q88a q88c (g := (mkF m 47 #[.val (.int p0), .val (.int p1), .val (.int (3 : Int32)), .val (.int (2 : Int32)), .val (.int (0 : Int32))] [(.ref a_ADMIN), (.ref a_GIVE)])) rfl (by rw [hml]; rfl) (Steps.refl _) (argsL := [(.ref a_ADMIN)]) (rest := []) (lenOf pd__Lcom_example_scoped_authority_scopedauthority_Authority__Z rfl) rfl (by show 2 * 0 + _ ≤ _; exact Nat.le_of_eq rfl) (hb hby at_47) (fun _ _ => ⟨rfl, hp87, (by decide : 0 + 0 ≤ _), (by decide : 0 + 0 ≤ _)⟩)
      dsimp only [Pt.U, Pt.locs, Pt.cells, Pt.slots] at X88 l88 y88 z88 st88 hQ88
      subst l88 y88 z88
      obtain ⟨rfl, N88q, hp88⟩ := hQ88
      have N88 := Fr.app N87 N88q
      have k89 : ∀ t, own_At p e below m T88 60 #[.val (.int p0), .val (.int p1), .val (.int (3 : Int32)), .val (.int (2 : Int32)), .val (.int (0 : Int32))] [(.int (1 : Int32))] t → own_En p e below m s₁ #[(.int p0), (.int p1)] maxLocals t := by
        intro t k
        refine k85 t ?_
        refine XS.istoreN X0.here hx rfl (hb hby at_7) rfl (l' := #[.val (.int p0), .val (.int p1), .val (.int (3 : Int32)), .val (.int (2 : Int32)), .unset]) rfl ?_
        show own_At p e below m s₁ 8 #[.val (.int p0), .val (.int p1), .val (.int (3 : Int32)), .val (.int (2 : Int32)), .unset] [] t
        refine XS.iloadN X0.here hx rfl (hb hby at_8) rfl ?_
        show own_At p e below m s₁ 9 #[.val (.int p0), .val (.int p1), .val (.int (3 : Int32)), .val (.int (2 : Int32)), .unset] [(.int (3 : Int32))] t
        refine XS.iloadN X0.here hx rfl (hb hby at_9) rfl ?_
        show own_At p e below m s₁ 10 #[.val (.int p0), .val (.int p1), .val (.int (3 : Int32)), .val (.int (2 : Int32)), .unset] [(.int (2 : Int32)), (.int (3 : Int32))] t
        refine XS.icmpNo X0.here hx rfl (hb hby at_10) rfl (feq (by decide : ¬ ((3 : Int32) = (2 : Int32)))).1 ?_
        show own_At p e below m s₁ 13 #[.val (.int p0), .val (.int p1), .val (.int (3 : Int32)), .val (.int (2 : Int32)), .unset] [] t
        refine XS.iloadN X0.here hx rfl (hb hby at_13) rfl ?_
        show own_At p e below m s₁ 14 #[.val (.int p0), .val (.int p1), .val (.int (3 : Int32)), .val (.int (2 : Int32)), .unset] [(.int (3 : Int32))] t
        refine XS.ifYes X0.here hx rfl (pc0 := 14) (pc' := 22) rfl (hb hby at_14) rfl ((if0 _ _).trans (feq (by decide : ¬ ((3 : Int32) = (0 : Int32)))).2) (by decide) (by decide) ?_
        show own_At p e below m s₁ 22 #[.val (.int p0), .val (.int p1), .val (.int (3 : Int32)), .val (.int (2 : Int32)), .unset] [] t
        refine XS.iloadN X0.here hx rfl (hb hby at_22) rfl ?_
        show own_At p e below m s₁ 23 #[.val (.int p0), .val (.int p1), .val (.int (3 : Int32)), .val (.int (2 : Int32)), .unset] [(.int (3 : Int32))] t
        refine XS.iconst X0.here hx rfl (hb hby at_23) ?_
        show own_At p e below m s₁ 24 #[.val (.int p0), .val (.int p1), .val (.int (3 : Int32)), .val (.int (2 : Int32)), .unset] [(.int (1 : Int32)), (.int (3 : Int32))] t
        refine XS.icmpYes X0.here hx rfl (pc0 := 24) (pc' := 36) rfl (hb hby at_24) rfl (feq (by decide : ¬ ((3 : Int32) = (1 : Int32)))).2 (by decide) (by decide) ?_
        show own_At p e below m s₁ 36 #[.val (.int p0), .val (.int p1), .val (.int (3 : Int32)), .val (.int (2 : Int32)), .unset] [] t
        refine XS.iconst X0.here hx rfl (hb hby at_36) ?_
        show own_At p e below m s₁ 37 #[.val (.int p0), .val (.int p1), .val (.int (3 : Int32)), .val (.int (2 : Int32)), .unset] [(.int (0 : Int32))] t
        refine XS.istore X0.here hx rfl (hb hby at_37) rfl (l' := #[.val (.int p0), .val (.int p1), .val (.int (3 : Int32)), .val (.int (2 : Int32)), .val (.int (0 : Int32))]) rfl ?_
        show own_At p e below m s₁ 39 #[.val (.int p0), .val (.int p1), .val (.int (3 : Int32)), .val (.int (2 : Int32)), .val (.int (0 : Int32))] [] t
        refine XS.iloadN X0.here hx rfl (hb hby at_39) rfl ?_
        show own_At p e below m s₁ 40 #[.val (.int p0), .val (.int p1), .val (.int (3 : Int32)), .val (.int (2 : Int32)), .val (.int (0 : Int32))] [(.int (3 : Int32))] t
        refine st86 _ ?_
        show own_At p e below m T86 43 #[.val (.int p0), .val (.int p1), .val (.int (3 : Int32)), .val (.int (2 : Int32)), .val (.int (0 : Int32))] [(.ref a_GIVE)] t
        refine XS.iloadN X86.here hx rfl (hb hby at_43) rfl ?_
        show own_At p e below m T86 44 #[.val (.int p0), .val (.int p1), .val (.int (3 : Int32)), .val (.int (2 : Int32)), .val (.int (0 : Int32))] [(.int (2 : Int32)), (.ref a_GIVE)] t
        refine st87 _ ?_
        show own_At p e below m T87 47 #[.val (.int p0), .val (.int p1), .val (.int (3 : Int32)), .val (.int (2 : Int32)), .val (.int (0 : Int32))] [(.ref a_ADMIN), (.ref a_GIVE)] t
        refine st88.trans ?_
        show own_At p e below m T88 50 #[.val (.int p0), .val (.int p1), .val (.int (3 : Int32)), .val (.int (2 : Int32)), .val (.int (0 : Int32))] [(.int (0 : Int32))] t
        refine XS.iload X88.here hx rfl (hb hby at_50) rfl ?_
        show own_At p e below m T88 52 #[.val (.int p0), .val (.int p1), .val (.int (3 : Int32)), .val (.int (2 : Int32)), .val (.int (0 : Int32))] [(.int (0 : Int32)), (.int (0 : Int32))] t
        refine XS.icmpNo X88.here hx rfl (hb hby at_52) rfl (teq (by decide : (0 : Int32) = (0 : Int32))).2 ?_
        show own_At p e below m T88 55 #[.val (.int p0), .val (.int p1), .val (.int (3 : Int32)), .val (.int (2 : Int32)), .val (.int (0 : Int32))] [] t
        refine XS.iconst X88.here hx rfl (hb hby at_55) ?_
        show own_At p e below m T88 56 #[.val (.int p0), .val (.int p1), .val (.int (3 : Int32)), .val (.int (2 : Int32)), .val (.int (0 : Int32))] [(.int (1 : Int32))] t
        refine XS.goto X88.here hx rfl (pc0 := 56) (pc' := 60) rfl (hb hby at_56) (by decide) (by decide) ?_
        show own_At p e below m T88 60 #[.val (.int p0), .val (.int p1), .val (.int (3 : Int32)), .val (.int (2 : Int32)), .val (.int (0 : Int32))] [(.int (1 : Int32))] t
        exact k
      obtain ⟨fs, hr, hrun, hended, hW, hsame⟩ := X88.leave (v := some (.int (1 : Int32))) (fun h => by rw [Bd.returns] at h; cases h)
      refine hNG ⟨_, _, k89 _ ?_, hrun, hended, _, _, rfl, ?_, ⟨_, rfl⟩, hW, hsame.mono (by decide) (by decide)⟩
      · exact retN X88 hx (t := .boolean) Bd.returns (by simp) (hb hby at_60) hr
      · show Q_law Z p0 p1 a_MANAGEMENT a_GIVE a_OWNERSHIP a_ADMIN h0 n0 _ T88.heap _
        rw [hp88]
        exact ⟨rfl, N88⟩
    · have k90 : ∀ t, own_At p e below m s₁ 7 #[.val (.int p0), .val (.int p1), .val (.int (3 : Int32)), .unset, .unset] [(.int (3 : Int32))] t → own_En p e below m s₁ #[(.int p0), (.int p1)] maxLocals t := by
        intro t k
        refine k73 t ?_
        rw [hs74]
        exact k
      obtain ⟨_, _, ⟨T91, L91, k91, n91⟩, -, X91, ⟨Lc91, hQ91, l91, y91, z91⟩, st91⟩ := Jvm.LawKit.callS X0 hx (y := own_m0) hown (mvT hZ (own_w hw 0 rfl)) (mvT hZ (own_w hw 1 rfl)) (mvT hZ (own_w hw 2 rfl)) (mvT hZ (own_w hw 3 rfl)) (by decide) (backOf (W := 0) (rm_f7 l Z a0 hw []  _ _ _ _ h0 n0 O0 hE) hZ (own_w hw 3 rfl) (own_w hw 2 rfl) (by decide) (by decide)) (g := (mkF m 40 #[.val (.int p0), .val (.int p1), .val (.int (3 : Int32)), .val (.int (3 : Int32)), .val (.int (1 : Int32))] [(.int (3 : Int32))])) rfl (by rw [hml]; rfl) (argsL := [(.int (3 : Int32))]) (rest := []) (lenOf pd__I_Lcom_example_scoped_authority_scopedauthority_Authority_ rfl) rfl (by show 2 * 0 + _ ≤ _; exact Nat.le_of_eq rfl) (hb hby at_40) (fun _ _ => ⟨rfl, e0, (by decide : 0 + 0 ≤ _), (by decide : 0 + 0 ≤ _)⟩)
      dsimp only [Pt.U, Pt.locs, Pt.cells, Pt.slots] at X91 l91 y91 z91 st91 hQ91
      subst l91 y91 z91
      obtain ⟨rfl, N91q, hp91⟩ := hQ91
      have N91 := Fr.app N0 N91q
      obtain ⟨_, _, ⟨T92, L92, k92, n92⟩, -, X92, ⟨Lc92, hQ92, l92, y92, z92⟩, st92⟩ := Jvm.LawKit.callS X91 hx (y := own_m0) hown (mvT hZ (own_w hw 0 rfl)) (mvT hZ (own_w hw 1 rfl)) (mvT hZ (own_w hw 2 rfl)) (mvT hZ (own_w hw 3 rfl)) (by decide) (backOf (W := 1) (rm_f7 l Z a0 hw []  _ _ _ _ h0 n0 O0 hE) hZ (own_w hw 3 rfl) (own_w hw 2 rfl) (by decide) (by decide)) (g := (mkF m 44 #[.val (.int p0), .val (.int p1), .val (.int (3 : Int32)), .val (.int (3 : Int32)), .val (.int (1 : Int32))] [(.int (3 : Int32)), (.ref a_GIVE)])) rfl (by rw [hml]; rfl) (argsL := [(.int (3 : Int32))]) (rest := [(.ref a_GIVE)]) (lenOf pd__I_Lcom_example_scoped_authority_scopedauthority_Authority_ rfl) rfl (by show 2 * 0 + _ ≤ _; exact Nat.le_of_eq rfl) (hb hby at_44) (fun _ _ => ⟨rfl, hp91, (by decide : 0 + 0 ≤ _), (by decide : 0 + 0 ≤ _)⟩)
      dsimp only [Pt.U, Pt.locs, Pt.cells, Pt.slots] at X92 l92 y92 z92 st92 hQ92
      subst l92 y92 z92
      obtain ⟨rfl, N92q, hp92⟩ := hQ92
      have N92 := Fr.app N91 N92q
      obtain ⟨cq93, kq93, q93a, q93b, q93c⟩ := isOf hZ hp92 (E_GIVE.ext O0.2)
      obtain ⟨_, _, ⟨T93, L93, k93, n93⟩, -, X93, ⟨Lc93, hQ93, l93, y93, z93⟩, st93⟩ := X92.virtualBack hx (y := own_m1) (z := own_m1) hown (mvT hZ (own_w hw 9 rfl)) (mvT hZ (own_w hw 10 rfl)) (notFace_of_selects (args := #[]) (mvT hZ (own_w hw 12 rfl))) (mvT hZ (own_w hw 12 rfl)) (mvT hZ (own_w hw 11 rfl)) (by decide) (backOf (W := 0) (rm_f20 l Z a0 hw []  _ _ _ _ h0 n0 O0 hE) hZ (own_w hw 13 rfl) (own_w hw 5 rfl) (by decide) (by decide)) q93a q93c (g := (mkF m 47 #[.val (.int p0), .val (.int p1), .val (.int (3 : Int32)), .val (.int (3 : Int32)), .val (.int (1 : Int32))] [(.ref a_GIVE), (.ref a_GIVE)])) rfl (by rw [hml]; rfl) (Steps.refl _) (argsL := [(.ref a_GIVE)]) (rest := []) (lenOf pd__Lcom_example_scoped_authority_scopedauthority_Authority__Z rfl) rfl (by show 2 * 0 + _ ≤ _; exact Nat.le_of_eq rfl) (hb hby at_47) (fun _ _ => ⟨rfl, hp92, (by decide : 0 + 0 ≤ _), (by decide : 0 + 0 ≤ _)⟩)
      dsimp only [Pt.U, Pt.locs, Pt.cells, Pt.slots] at X93 l93 y93 z93 st93 hQ93
      subst l93 y93 z93
      obtain ⟨rfl, N93q, hp93⟩ := hQ93
      have N93 := Fr.app N92 N93q
      have k94 : ∀ t, own_At p e below m T93 60 #[.val (.int p0), .val (.int p1), .val (.int (3 : Int32)), .val (.int (3 : Int32)), .val (.int (1 : Int32))] [(.int (1 : Int32))] t → own_En p e below m s₁ #[(.int p0), (.int p1)] maxLocals t := by
        intro t k
        refine k90 t ?_
        refine XS.istoreN X0.here hx rfl (hb hby at_7) rfl (l' := #[.val (.int p0), .val (.int p1), .val (.int (3 : Int32)), .val (.int (3 : Int32)), .unset]) rfl ?_
        show own_At p e below m s₁ 8 #[.val (.int p0), .val (.int p1), .val (.int (3 : Int32)), .val (.int (3 : Int32)), .unset] [] t
        refine XS.iloadN X0.here hx rfl (hb hby at_8) rfl ?_
        show own_At p e below m s₁ 9 #[.val (.int p0), .val (.int p1), .val (.int (3 : Int32)), .val (.int (3 : Int32)), .unset] [(.int (3 : Int32))] t
        refine XS.iloadN X0.here hx rfl (hb hby at_9) rfl ?_
        show own_At p e below m s₁ 10 #[.val (.int p0), .val (.int p1), .val (.int (3 : Int32)), .val (.int (3 : Int32)), .unset] [(.int (3 : Int32)), (.int (3 : Int32))] t
        refine XS.icmpYes X0.here hx rfl (pc0 := 10) (pc' := 32) rfl (hb hby at_10) rfl (teq (by decide : (3 : Int32) = (3 : Int32))).1 (by decide) (by decide) ?_
        show own_At p e below m s₁ 32 #[.val (.int p0), .val (.int p1), .val (.int (3 : Int32)), .val (.int (3 : Int32)), .unset] [] t
        refine XS.iconst X0.here hx rfl (hb hby at_32) ?_
        show own_At p e below m s₁ 33 #[.val (.int p0), .val (.int p1), .val (.int (3 : Int32)), .val (.int (3 : Int32)), .unset] [(.int (1 : Int32))] t
        refine XS.goto X0.here hx rfl (pc0 := 33) (pc' := 37) rfl (hb hby at_33) (by decide) (by decide) ?_
        show own_At p e below m s₁ 37 #[.val (.int p0), .val (.int p1), .val (.int (3 : Int32)), .val (.int (3 : Int32)), .unset] [(.int (1 : Int32))] t
        refine XS.istore X0.here hx rfl (hb hby at_37) rfl (l' := #[.val (.int p0), .val (.int p1), .val (.int (3 : Int32)), .val (.int (3 : Int32)), .val (.int (1 : Int32))]) rfl ?_
        show own_At p e below m s₁ 39 #[.val (.int p0), .val (.int p1), .val (.int (3 : Int32)), .val (.int (3 : Int32)), .val (.int (1 : Int32))] [] t
        refine XS.iloadN X0.here hx rfl (hb hby at_39) rfl ?_
        show own_At p e below m s₁ 40 #[.val (.int p0), .val (.int p1), .val (.int (3 : Int32)), .val (.int (3 : Int32)), .val (.int (1 : Int32))] [(.int (3 : Int32))] t
        refine st91 _ ?_
        show own_At p e below m T91 43 #[.val (.int p0), .val (.int p1), .val (.int (3 : Int32)), .val (.int (3 : Int32)), .val (.int (1 : Int32))] [(.ref a_GIVE)] t
        refine XS.iloadN X91.here hx rfl (hb hby at_43) rfl ?_
        show own_At p e below m T91 44 #[.val (.int p0), .val (.int p1), .val (.int (3 : Int32)), .val (.int (3 : Int32)), .val (.int (1 : Int32))] [(.int (3 : Int32)), (.ref a_GIVE)] t
        refine st92 _ ?_
        show own_At p e below m T92 47 #[.val (.int p0), .val (.int p1), .val (.int (3 : Int32)), .val (.int (3 : Int32)), .val (.int (1 : Int32))] [(.ref a_GIVE), (.ref a_GIVE)] t
        refine st93.trans ?_
        show own_At p e below m T93 50 #[.val (.int p0), .val (.int p1), .val (.int (3 : Int32)), .val (.int (3 : Int32)), .val (.int (1 : Int32))] [(.int (1 : Int32))] t
        refine XS.iload X93.here hx rfl (hb hby at_50) rfl ?_
        show own_At p e below m T93 52 #[.val (.int p0), .val (.int p1), .val (.int (3 : Int32)), .val (.int (3 : Int32)), .val (.int (1 : Int32))] [(.int (1 : Int32)), (.int (1 : Int32))] t
        refine XS.icmpNo X93.here hx rfl (hb hby at_52) rfl (teq (by decide : (1 : Int32) = (1 : Int32))).2 ?_
        show own_At p e below m T93 55 #[.val (.int p0), .val (.int p1), .val (.int (3 : Int32)), .val (.int (3 : Int32)), .val (.int (1 : Int32))] [] t
        refine XS.iconst X93.here hx rfl (hb hby at_55) ?_
        show own_At p e below m T93 56 #[.val (.int p0), .val (.int p1), .val (.int (3 : Int32)), .val (.int (3 : Int32)), .val (.int (1 : Int32))] [(.int (1 : Int32))] t
        refine XS.goto X93.here hx rfl (pc0 := 56) (pc' := 60) rfl (hb hby at_56) (by decide) (by decide) ?_
        show own_At p e below m T93 60 #[.val (.int p0), .val (.int p1), .val (.int (3 : Int32)), .val (.int (3 : Int32)), .val (.int (1 : Int32))] [(.int (1 : Int32))] t
        exact k
      obtain ⟨fs, hr, hrun, hended, hW, hsame⟩ := X93.leave (v := some (.int (1 : Int32))) (fun h => by rw [Bd.returns] at h; cases h)
      refine hNG ⟨_, _, k94 _ ?_, hrun, hended, _, _, rfl, ?_, ⟨_, rfl⟩, hW, hsame.mono (by decide) (by decide)⟩
      · exact retN X93 hx (t := .boolean) Bd.returns (by simp) (hb hby at_60) hr
      · show Q_law Z p0 p1 a_MANAGEMENT a_GIVE a_OWNERSHIP a_ADMIN h0 n0 _ T93.heap _
        rw [hp93]
        exact ⟨rfl, N93⟩
set_option maxRecDepth 65536 in
set_option maxHeartbeats 40000000 in
theorem comes_1 {Post : Tables → Env → Array Value → State → Outcome → State → Prop} (hpost : ∀ tb e args s v u, (limb_1_1.after args s (.returned v) u = true ∧ limb_1_2.after args s (.returned v) u = true ∧ True) → FrameEnd s (.returned v) u (Jvm.fieldLocs frame_1_writes args s ++ Jvm.arrayLocs frame_1_arrays args s ++ Jvm.staticLocs frame_1_statics s) 0 0 → Post tb e args s (.returned v) u) :
    ArmFor flags0 classFile x code maxLocals ret World_1 tables_1 room_1 Calls_1 rest_1 Pre_1 Post := by
  intro l hfl _ _ p e ha hc hk s m args below hf hA hF happ hP
  obtain ⟨hcalls, hrest, hpre⟩ := hP
  obtain ⟨-, -, -, hnamed, -, -, -, hat⟩ := (Spec.applies_iff hf).mp happ
  obtain ⟨hg, hn⟩ := and_e (Cond.before_iff.mp (show (Jvm.Cond.and given_1 narrow_1).before args s = true from hpre))
  obtain ⟨g0a, g0b⟩ := and_e hg
  obtain ⟨g1a, g1b⟩ := and_e g0b
  obtain ⟨w0, w1, rfl⟩ : ∃ w0 w1 : Value, args = #[w0, w1] := by
    have hs : args.size = 2 := by simpa [Cond.value, given_1] using g0a
    obtain ⟨L⟩ := args
    match L, hs with
    | [w0, w1], _ => exact ⟨w0, w1, rfl⟩
  have hw := fun d (hd : d ∈ tables_1) => atoms_spec (ws := Jvm.Cond.code x code maxLocals ret :: tables_1) hat d (List.mem_cons_of_mem _ hd)
  have hfit : Fit s := fun {y c} hc i hi => by
    obtain ⟨ha, rfl⟩ := Array.getElem?_eq_some_iff.mp hc
    have q := List.all_eq_true.mp ((Array.all_eq_true_iff_forall_mem.mp hF) _ (Array.getElem_mem ha)) i (List.mem_range.mpr hi)
    simpa [Array.getElem?_eq_getElem hi] using q
  obtain ⟨i0, ei0⟩ := is_v g1a
  obtain rfl : w0 = (.int i0) := Option.some.inj ei0
  obtain ⟨i1, ei1⟩ := is_v g1b
  obtain rfl : w1 = (.int i1) := Option.some.inj ei1
  obtain ⟨hn1a, hn1b⟩ := and_e hn
  obtain ⟨hn2a, hn2b⟩ := and_e hn1b
  obtain ⟨hn3a, hn3b⟩ := and_e hn2b
  obtain ⟨hn4a, hn4b⟩ := and_e hn3b
  obtain ⟨hn5a, hn5b⟩ := and_e hn4b
  obtain ⟨hn6a, hn6b⟩ := and_e hn5b
  obtain ⟨hn7a, hn7b⟩ := and_e hn6b
  obtain ⟨hn8a, hn8b⟩ := and_e hn7b
  obtain ⟨hn9a, hn9b⟩ := and_e hn8b
  obtain ⟨hn10a, hn10b⟩ := and_e hn9b
  obtain ⟨hn11a, hn11b⟩ := and_e hn10b
  obtain ⟨a_MANAGEMENT, v_a_MANAGEMENT⟩ := exa_v hn1a
  have S_MANAGEMENT := Sta.start v_a_MANAGEMENT (Or.inr ⟨(own_w hw 5 rfl), (own_w hw 6 rfl)⟩)
  have E_MANAGEMENT := Exa.start v_a_MANAGEMENT hn1a
  obtain ⟨a_GIVE, v_a_GIVE⟩ := exa_v hn2a
  have S_GIVE := Sta.start v_a_GIVE (Or.inr ⟨(own_w hw 5 rfl), (own_w hw 8 rfl)⟩)
  have E_GIVE := Exa.start v_a_GIVE hn2a
  have F_GIVE_ordinal := Fld.start ((fld_at v_a_GIVE).symm.trans (own_eqI hn3a))
  have F_MANAGEMENT_ordinal := Fld.start ((fld_at v_a_MANAGEMENT).symm.trans (own_eqI hn4a))
  obtain ⟨a_OWNERSHIP, v_a_OWNERSHIP⟩ := exa_v hn5a
  have S_OWNERSHIP := Sta.start v_a_OWNERSHIP (Or.inr ⟨(own_w hw 5 rfl), (own_w hw 16 rfl)⟩)
  have E_OWNERSHIP := Exa.start v_a_OWNERSHIP hn5a
  have F_GIVE_under := Fld.start ((fld_at v_a_GIVE).symm.trans (own_eqR hn6a v_a_OWNERSHIP))
  have F_OWNERSHIP_ordinal := Fld.start ((fld_at v_a_OWNERSHIP).symm.trans (own_eqI hn7a))
  obtain ⟨a_ADMIN, v_a_ADMIN⟩ := exa_v hn8a
  have S_ADMIN := Sta.start v_a_ADMIN (Or.inr ⟨(own_w hw 5 rfl), (own_w hw 18 rfl)⟩)
  have E_ADMIN := Exa.start v_a_ADMIN hn8a
  have F_ADMIN_ordinal := Fld.start ((fld_at v_a_ADMIN).symm.trans (own_eqI hn9a))
  have F_OWNERSHIP_under := Fld.start ((fld_at v_a_OWNERSHIP).symm.trans (null_v hn10a))
  have F_MANAGEMENT_under := Fld.start ((fld_at v_a_MANAGEMENT).symm.trans (null_v hn11a))
  have F_ADMIN_under := Fld.start ((fld_at v_a_ADMIN).symm.trans (own_eqR hn11b v_a_MANAGEMENT))
  obtain ⟨n, o, h1, h2, h3, _, L, rfl, ⟨rfl, N⟩, hq⟩ := rm_law l s _ hw tables_1 i0 i1 a_MANAGEMENT a_GIVE a_OWNERSHIP a_ADMIN s.heap s.heap.size (Old.start s) ⟨S_MANAGEMENT, E_MANAGEMENT, S_GIVE, E_GIVE, F_GIVE_ordinal, F_MANAGEMENT_ordinal, S_OWNERSHIP, E_OWNERSHIP, F_GIVE_under, F_OWNERSHIP_ordinal, S_ADMIN, E_ADMIN, F_ADMIN_ordinal, F_OWNERSHIP_under, F_MANAGEMENT_under, F_ADMIN_under⟩  p e ha hc hk s m _ below hf ((Spec.applies_iff_loose hf).mp happ).1 ⟨rfl, State.Warmed39.refl s, rfl⟩ trivial
  refine ⟨n, _, h1, h2, h3, hpost _ _ _ _ _ _ ⟨Cond.after_iff.mpr rfl, Cond.after_iff.mpr (eq_i res_at (Term.int_eval (1)) rfl), trivial⟩ ⟨hq.1, hq.2.1, (hq.2.2.sift fun y hy => Or.inr (N y hy)).mono (by decide) (by decide)⟩⟩
theorem main_1_1 : Claimed_1_1 := comes_1 fun _ _ _ _ _ _ h hF => ⟨h.1, hF⟩
theorem main_1_2 : Claimed_1_2 := comes_1 fun _ _ _ _ _ _ h hF => ⟨h.2.1, hF⟩
end Jvm.Pilot.@@N@@
namespace Jvm.Pilot.@@N@@
open Jvm Jvm.ClassFile Sem Op Lib Jvm.Free Jvm.Stand Jvm.Pilot.@@N@@.Jvm.D
/-! MADE BY PROGRAM (witnessworld.py) out of the Statement's table words and the real class files: 12 classes; the members and pool entries that the words name. The judged class is class 1, her method 2. -/
namespace start1
open Jvm.ClassFile
def u (s : String) : CpInfo := .utf8 (stringToUtf16 s)
/-- a pool by its gaps: so many unusable entries, then the entry; so many at the end -/
def gap : Nat → List CpInfo → List CpInfo
  | 0, r => r
  | n + 1, r => .unusable :: gap n r
def poolList (es : List (Nat × CpInfo)) (last : Nat) : List CpInfo := es.foldr (fun e r => gap e.1 (e.2 :: r)) (gap last [])
def pool (es : List (Nat × CpInfo)) (last : Nat) : Array CpInfo := ⟨poolList es last⟩
def fileOf (pool : Array CpInfo) (this : Nat) (attrs : Array Attribute := #[]) (ms : Array MethodInfo := #[]) (fl : Nat := 33) (sup : Nat := 0) (ifs : Array Nat := #[]) (fds : Array FieldInfo := #[]) : ClassFile where
  minorVersion := 0
  majorVersion := 65
  constantPool := pool
  accessFlags := fl
  thisClass := this
  superClass := sup
  interfaces := ifs
  fields := fds
  methods := ms
  attributes := attrs
def plain (name : String) (sup : Option ClassId) : Class where
  name := name
  kind := .ordinary
  loader := none
  accessFlags := 33
  super := sup
  interfaces := #[]
  cf := none
  fields := #[]
  methods := #[]
  instanceTypes := #[]
  staticTypes := #[]
  resolved := #[]
  callSites := []
  init := .initialized
  statics := none
  mirror := none

def pool0 : Array CpInfo := pool [(5, u "<init>"), (0, u "()V"), (1, .class_ 10), (1, u "java/lang/Object")] 113

def k0m0 : Method := { name := "<init>", desc := "()V", sig := { parameters := [], returnType := none }, accessFlags := 1, code := none }
/-- java/lang/Object -/
def k0 : Class := { plain "java/lang/Object" none with
  accessFlags := 33
  interfaces := #[]
  cf := some (fileOf pool0 8 #[] #[{ accessFlags := 1, nameIndex := 5, descriptorIndex := 6, attributes := #[] }] 33 0 #[] #[])
  fields := #[]
  methods := #[k0m0]
  instanceTypes := #[]
  staticTypes := #[]
  resolved := Array.replicate 124 none
  statics := none }

def pool1 : Array CpInfo := pool [(2, .class_ 4), (1, u "java/lang/Object"), (0, u "<init>"), (0, u "()V"), (0, .fieldref 8 9), (0, .class_ 10), (0, .nameAndType 11 12), (0, u "com/example/scoped_authority/scopedauthority/Authority"), (0, u "MANAGEMENT"), (0, u "Lcom/example/scoped_authority/scopedauthority/Authority;"), (0, .fieldref 8 14), (0, .nameAndType 15 12), (0, u "OWNERSHIP"), (0, .fieldref 8 17), (0, .nameAndType 18 12), (0, u "ADMIN"), (0, .fieldref 8 20), (0, .nameAndType 21 12), (0, u "GIVE"), (0, .methodref 23 24), (0, .class_ 25), (0, .nameAndType 26 27), (0, u "com/example/scoped_authority/scopedauthority/AuthorityIncludesPinLaw"), (0, u "pick"), (0, u "(I)Lcom/example/scoped_authority/scopedauthority/Authority;"), (0, .methodref 8 29), (0, .nameAndType 30 31), (0, u "includes"), (0, u "(Lcom/example/scoped_authority/scopedauthority/Authority;)Z"), (3, u "law"), (0, u "(II)Z")] 2

def k1m0 : Method := { name := "<init>", desc := "()V", sig := { parameters := [], returnType := none }, accessFlags := 1, code := none }
def k1c1 : Code := { maxStack := 2, maxLocals := 1, code := method_2_code, exceptionTable := #[], attributes := #[] }
def k1m1 : Method := { name := "pick", desc := "(I)Lcom/example/scoped_authority/scopedauthority/Authority;", sig := { parameters := [.int], returnType := some (.object "com/example/scoped_authority/scopedauthority/Authority") }, accessFlags := 10, code := some k1c1 }
def k1c2 : Code := { maxStack := 2, maxLocals := 5, code := code, exceptionTable := #[], attributes := #[] }
def k1m2 : Method := { name := "law", desc := "(II)Z", sig := { parameters := [.int, .int], returnType := some .boolean }, accessFlags := 9, code := some k1c2 }
/-- com/example/scoped_authority/scopedauthority/AuthorityIncludesPinLaw -/
def k1 : Class := { plain "com/example/scoped_authority/scopedauthority/AuthorityIncludesPinLaw" (some 0) with
  accessFlags := 49
  interfaces := #[]
  cf := some (fileOf pool1 23 #[] #[{ accessFlags := 1, nameIndex := 5, descriptorIndex := 6, attributes := #[] }, { accessFlags := 10, nameIndex := 26, descriptorIndex := 27, attributes := #[] }, { accessFlags := 9, nameIndex := 35, descriptorIndex := 36, attributes := #[] }] 49 2 #[] #[])
  fields := #[]
  methods := #[k1m0, k1m1, k1m2]
  instanceTypes := #[]
  staticTypes := #[]
  resolved := Array.replicate 39 none
  statics := none }

def pool2 : Array CpInfo := pool [(1, .class_ 2), (0, u "java/lang/constant/Constable"), (0, .class_ 4), (0, u "java/lang/Object")] 6

/-- java/lang/constant/Constable -/
def k2 : Class := { plain "java/lang/constant/Constable" (some 0) with
  accessFlags := 1537
  interfaces := #[]
  cf := some (fileOf pool2 1 #[] #[] 1537 3 #[] #[])
  fields := #[]
  methods := #[]
  instanceTypes := #[]
  staticTypes := #[]
  resolved := Array.replicate 11 none
  statics := none }

def pool3 : Array CpInfo := pool [(1, .class_ 2), (0, u "java/lang/Comparable"), (0, .class_ 4), (0, u "java/lang/Object")] 7

/-- java/lang/Comparable -/
def k3 : Class := { plain "java/lang/Comparable" (some 0) with
  accessFlags := 1537
  interfaces := #[]
  cf := some (fileOf pool3 1 #[] #[] 1537 3 #[] #[])
  fields := #[]
  methods := #[]
  instanceTypes := #[]
  staticTypes := #[]
  resolved := Array.replicate 12 none
  statics := none }

def pool4 : Array CpInfo := pool [(1, .class_ 2), (0, u "java/io/Serializable"), (0, .class_ 4), (0, u "java/lang/Object")] 2

/-- java/io/Serializable -/
def k4 : Class := { plain "java/io/Serializable" (some 0) with
  accessFlags := 1537
  interfaces := #[]
  cf := some (fileOf pool4 1 #[] #[] 1537 3 #[] #[])
  fields := #[]
  methods := #[]
  instanceTypes := #[]
  staticTypes := #[]
  resolved := Array.replicate 7 none
  statics := none }

def pool5 : Array CpInfo := pool [(2, .class_ 4), (1, u "java/lang/Enum"), (0, u "name"), (0, u "Ljava/lang/String;"), (2, u "ordinal"), (0, u "I"), (1, .class_ 14), (1, u "java/lang/Object"), (4, u "hash"), (86, .class_ 108), (1, u "java/lang/Enum$EnumDesc"), (2, .class_ 112), (0, u "java/lang/constant/Constable"), (0, .class_ 114), (0, u "java/lang/Comparable"), (0, .class_ 116), (0, u "java/io/Serializable")] 87

/-- java/lang/Enum -/
def k5 : Class := { plain "java/lang/Enum" (some 0) with
  accessFlags := 1057
  interfaces := #[2, 3, 4]
  cf := some (fileOf pool5 2 #[.nestMembers #[106]] #[] 1057 12 #[111, 113, 115] #[{ accessFlags := 18, nameIndex := 5, descriptorIndex := 6, attributes := #[] }, { accessFlags := 18, nameIndex := 9, descriptorIndex := 10, attributes := #[] }, { accessFlags := 2, nameIndex := 19, descriptorIndex := 10, attributes := #[] }])
  fields := #[{ name := "name", type := (.object "java/lang/String"), accessFlags := 18, slot := 0, constantValue := 0 }, { name := "ordinal", type := .int, accessFlags := 18, slot := 1, constantValue := 0 }, { name := "hash", type := .int, accessFlags := 2, slot := 2, constantValue := 0 }]
  methods := #[]
  instanceTypes := #[(.object "java/lang/String"), .int, .int]
  staticTypes := #[]
  resolved := Array.replicate 204 none
  statics := none }

def pool6 : Array CpInfo := pool [(1, .class_ 2), (0, u "com/example/scoped_authority/scopedauthority/Authority"), (2, u "MANAGEMENT"), (0, u "Lcom/example/scoped_authority/scopedauthority/Authority;"), (2, u "OWNERSHIP"), (2, u "ADMIN"), (2, u "GIVE"), (2, u "$VALUES"), (0, u "[Lcom/example/scoped_authority/scopedauthority/Authority;"), (6, .class_ 28), (1, u "java/lang/Enum"), (8, u "word"), (0, u "Ljava/lang/String;"), (2, u "phrase"), (0, .fieldref 1 43), (0, .nameAndType 44 6), (0, u "under"), (37, u "includes"), (0, u "(Lcom/example/scoped_authority/scopedauthority/Authority;)Z")] 21

def k6c0 : Code := { maxStack := 2, maxLocals := 2, code := prog_14_method_8_code, exceptionTable := #[], attributes := #[] }
def k6m0 : Method := { name := "includes", desc := "(Lcom/example/scoped_authority/scopedauthority/Authority;)Z", sig := { parameters := [(.object "com/example/scoped_authority/scopedauthority/Authority")], returnType := some .boolean }, accessFlags := 1, code := some k6c0 }
/-- com/example/scoped_authority/scopedauthority/Authority -/
def k6 : Class := { plain "com/example/scoped_authority/scopedauthority/Authority" (some 5) with
  accessFlags := 16433
  interfaces := #[]
  cf := some (fileOf pool6 1 #[] #[{ accessFlags := 1, nameIndex := 82, descriptorIndex := 83, attributes := #[] }] 16433 26 #[] #[{ accessFlags := 16409, nameIndex := 5, descriptorIndex := 6, attributes := #[] }, { accessFlags := 16409, nameIndex := 9, descriptorIndex := 6, attributes := #[] }, { accessFlags := 16409, nameIndex := 12, descriptorIndex := 6, attributes := #[] }, { accessFlags := 16409, nameIndex := 15, descriptorIndex := 6, attributes := #[] }, { accessFlags := 18, nameIndex := 37, descriptorIndex := 38, attributes := #[] }, { accessFlags := 18, nameIndex := 41, descriptorIndex := 38, attributes := #[] }, { accessFlags := 18, nameIndex := 44, descriptorIndex := 6, attributes := #[] }, { accessFlags := 4122, nameIndex := 18, descriptorIndex := 19, attributes := #[] }])
  fields := #[{ name := "MANAGEMENT", type := (.object "com/example/scoped_authority/scopedauthority/Authority"), accessFlags := 16409, slot := 0, constantValue := 0 }, { name := "OWNERSHIP", type := (.object "com/example/scoped_authority/scopedauthority/Authority"), accessFlags := 16409, slot := 1, constantValue := 0 }, { name := "ADMIN", type := (.object "com/example/scoped_authority/scopedauthority/Authority"), accessFlags := 16409, slot := 2, constantValue := 0 }, { name := "GIVE", type := (.object "com/example/scoped_authority/scopedauthority/Authority"), accessFlags := 16409, slot := 3, constantValue := 0 }, { name := "word", type := (.object "java/lang/String"), accessFlags := 18, slot := 3, constantValue := 0 }, { name := "phrase", type := (.object "java/lang/String"), accessFlags := 18, slot := 4, constantValue := 0 }, { name := "under", type := (.object "com/example/scoped_authority/scopedauthority/Authority"), accessFlags := 18, slot := 5, constantValue := 0 }, { name := "$VALUES", type := (.array (.object "com/example/scoped_authority/scopedauthority/Authority")), accessFlags := 4122, slot := 4, constantValue := 0 }]
  methods := #[k6m0]
  instanceTypes := #[(.object "java/lang/String"), .int, .int, (.object "java/lang/String"), (.object "java/lang/String"), (.object "com/example/scoped_authority/scopedauthority/Authority")]
  staticTypes := #[(.object "com/example/scoped_authority/scopedauthority/Authority"), (.object "com/example/scoped_authority/scopedauthority/Authority"), (.object "com/example/scoped_authority/scopedauthority/Authority"), (.object "com/example/scoped_authority/scopedauthority/Authority"), (.array (.object "com/example/scoped_authority/scopedauthority/Authority"))]
  resolved := Array.replicate 105 none
  statics := some 0 }

def pool7 : Array CpInfo := pool [(1, u "java/lang/Cloneable"), (0, .class_ 1), (0, u "java/lang/Object"), (0, .class_ 3)] 3

/-- java/lang/Cloneable -/
def k7 : Class := { plain "java/lang/Cloneable" (some 0) with
  accessFlags := 1537
  interfaces := #[]
  cf := some (fileOf pool7 2 #[] #[] 1537 4 #[] #[])
  fields := #[]
  methods := #[]
  instanceTypes := #[]
  staticTypes := #[]
  resolved := Array.replicate 8 none
  statics := none }

/-- the primitive byte -/
def k8 : Class := { plain "byte" none with kind := .primitive 'B', accessFlags := 0x411 }
/-- [B -/
def k9 : Class := { plain "[B" (some 0) with kind := .array 8 .byte, interfaces := #[7, 4], accessFlags := 1041 }

/-- the primitive int -/
def k10 : Class := { plain "int" none with kind := .primitive 'I', accessFlags := 0x411 }
/-- [I -/
def k11 : Class := { plain "[I" (some 0) with kind := .array 10 .int, interfaces := #[7, 4], accessFlags := 1041 }

def heap : Heap := #[{ cls := 6, slots := #[.ref 1, .ref 3, .ref 4, .ref 2, .null], vm := .statics 6 },
  { cls := 6, slots := #[.null, .int 0, .int 0, .null, .null, .null], vm := .none },
  { cls := 6, slots := #[.null, .int 3, .int 0, .null, .null, .ref 3], vm := .none },
  { cls := 6, slots := #[.null, .int 1, .int 0, .null, .null, .null], vm := .none },
  { cls := 6, slots := #[.null, .int 2, .int 0, .null, .null, .ref 1], vm := .none }]
def classes : Array Class := #[k0, k1, k2, k3, k4, k5, k6, k7, k8, k9, k10, k11]
def interned : List (Array UInt16 × Addr) := []
def slotsUsed : Nat := 29
def theMethod : MethodId := ⟨1, 2⟩
def args0 : Array Value := #[.int 5, .int 3]
def aboutOver (below : List Frame) : State where
  vm := { classes := classes, interned := interned.toArray }
  heap := heap
  slotsUsed := slotsUsed
  threads := #[{ frames := .invoking theMethod args0 :: below }]
def below0 : List Frame := [.native { method := ⟨0, 0⟩, args := #[] }]
def about1 : State := aboutOver below0
def p0 : Program := .bare "" "" ""
def e0 : Env := launch0.env 0 0 0
theorem w_frames : about1.frames = Frame.invoking theMethod args0 :: below0 := rfl
set_option maxRecDepth 65536 in
theorem w_args : argsFit about1.vm theMethod args0 = true := by decide +kernel
set_option maxRecDepth 65536 in
theorem w_heap : heapFits about1 = true := by decide +kernel
set_option maxRecDepth 65536 in
theorem w_runnable : about1.curStatus? = some .runnable := by decide +kernel
set_option maxRecDepth 65536 in
theorem w_alone : about1.alone = true := by decide +kernel
set_option maxRecDepth 65536 in
theorem w_named : about1.methodNamed? x = some theMethod := by decide +kernel
set_option maxRecDepth 65536 in
theorem w_hears : about1.hears theMethod below0 = true := by decide +kernel
set_option maxRecDepth 65536 in
theorem w_ripe : about1.ripe theMethod args0 below0 = true := by decide +kernel
theorem w_running : about1.status = .running := rfl
set_option maxRecDepth 65536 in
theorem w_room : about1.hasRoom e0.platform room_1 = true :=
  launch0.hasRoom_least _ room_1 (by decide +kernel) (by decide +kernel) (by decide +kernel) (by decide +kernel) (by decide +kernel) (by decide +kernel)
theorem allAtoms_all (ts : List Jvm.Cond) (a : Array Jvm.Value) (st : Jvm.State) : (allAtoms ts).before a st = ts.all (fun c => c.before a st) := by
  induction ts with
  | nil => rfl
  | cons c t ih =>
    show (Jvm.Cond.and c (allAtoms t)).before a st = _
    rw [Jvm.Cond.before_and, ih, List.all_cons]
def words1 : List Jvm.Cond := Jvm.Cond.code x code maxLocals ret :: tables_1
/-- a 'code' word, met by the world's own term for the bytes: nothing is compared byte by byte -/
theorem code_word {y : MethodName} {bytes : ByteArray} {mx : Nat} {rt : Option FieldType} {a : Array Value} {s : State} {m : MethodId} {meth : Method} {c : Code} (h1 : s.methodNamed? y = some m) (h2 : s.vm.method? m = some meth) (h3 : meth.code = some c) (h4 : c.code = bytes)
    (h5 : (c.maxLocals == mx && c.exceptionTable.isEmpty && decide (c.maxStack ≤ mostOperands) && decide (meth.sig.returnType = rt) && !meth.locks && decide (parseMethodDescriptor y.desc = some meth.sig)) = true) : (Jvm.Cond.code y bytes mx rt).before a s = true := by
  simp only [Bool.and_eq_true, beq_iff_eq, Bool.not_eq_true', decide_eq_true_eq] at h5
  obtain ⟨⟨⟨⟨⟨g1, g2⟩, g3⟩, g4⟩, g5⟩, g6⟩ := h5
  simp [Cond.before, Cond.holds, Cond.value, h1, h2, h3, h4, g1, g2, g3, g4, g5, g6]
def isCode : Jvm.Cond → Bool
  | .code _ _ _ _ => true
  | _ => false
theorem all_split {L : List Jvm.Cond} {P : Jvm.Cond → Bool} (h1 : L.all (fun c => isCode c || P c) = true) (h2 : ∀ c ∈ L.filter isCode, P c = true) : L.all P = true := by
  refine List.all_eq_true.mpr fun c hc => ?_
  have h := List.all_eq_true.mp h1 c hc
  rcases Bool.eq_false_or_eq_true (isCode c) with hi | hi
  · exact h2 c (List.mem_filter.mpr ⟨hc, hi⟩)
  · simpa [hi] using h
set_option maxRecDepth 65536 in
theorem w_c0 : (Jvm.Cond.code x code maxLocals ret).before args0 about1 = true := code_word (m := ⟨1, 2⟩) (meth := k1m2) (c := k1c2) (by decide +kernel) rfl rfl rfl (by decide +kernel)
set_option maxRecDepth 65536 in
theorem w_c1 : (Jvm.Cond.code ({ cls := "com/example/scoped_authority/scopedauthority/AuthorityIncludesPinLaw", name := "pick", desc := "(I)Lcom/example/scoped_authority/scopedauthority/Authority;" } : Jvm.MethodName) method_2_code (1 : Nat) (Option.some (Jvm.ClassFile.FieldType.object "com/example/scoped_authority/scopedauthority/Authority"))).before args0 about1 = true := code_word (m := ⟨1, 1⟩) (meth := k1m1) (c := k1c1) (by decide +kernel) rfl rfl rfl (by decide +kernel)
set_option maxRecDepth 65536 in
theorem w_c2 : (Jvm.Cond.code ({ cls := "com/example/scoped_authority/scopedauthority/Authority", name := "includes", desc := "(Lcom/example/scoped_authority/scopedauthority/Authority;)Z" } : Jvm.MethodName) prog_14_method_8_code (2 : Nat) (Option.some Jvm.ClassFile.FieldType.boolean)).before args0 about1 = true := code_word (m := ⟨6, 0⟩) (meth := k6m0) (c := k6c0) (by decide +kernel) rfl rfl rfl (by decide +kernel)
def codes1 : List Jvm.Cond := [Jvm.Cond.code x code maxLocals ret, Jvm.Cond.code ({ cls := "com/example/scoped_authority/scopedauthority/AuthorityIncludesPinLaw", name := "pick", desc := "(I)Lcom/example/scoped_authority/scopedauthority/Authority;" } : Jvm.MethodName) method_2_code (1 : Nat) (Option.some (Jvm.ClassFile.FieldType.object "com/example/scoped_authority/scopedauthority/Authority")), Jvm.Cond.code ({ cls := "com/example/scoped_authority/scopedauthority/Authority", name := "includes", desc := "(Lcom/example/scoped_authority/scopedauthority/Authority;)Z" } : Jvm.MethodName) prog_14_method_8_code (2 : Nat) (Option.some Jvm.ClassFile.FieldType.boolean)]
set_option maxRecDepth 65536 in
theorem codes_eq : words1.filter isCode = codes1 := rfl
theorem w_codes : ∀ c ∈ words1.filter isCode, c.before args0 about1 = true := by
  rw [codes_eq]
  intro c hc
  simp only [codes1, List.mem_cons, List.not_mem_nil, or_false] at hc
  rcases hc with rfl | rfl | rfl
  · exact w_c0
  · exact w_c1
  · exact w_c2
set_option maxRecDepth 65536 in
theorem w_t1 : words1.all (fun c => isCode c || c.before args0 about1) = true := by decide +kernel
theorem w_tables : (allAtoms (Jvm.Cond.code x code maxLocals ret :: tables_1)).before args0 about1 = true := by
  rw [allAtoms_all]
  show words1.all (fun c => c.before args0 about1) = true
  refine all_split ?_ w_codes
  rw [w_t1]
set_option maxRecDepth 65536 in
theorem w_case : (Jvm.Cond.and given_1 narrow_1).before args0 about1 = true := by decide +kernel
theorem w_applies : (headSpec (Jvm.Cond.code x code maxLocals ret :: tables_1) room_1).applies x e0.platform about1 = true :=
  (Spec.applies_iff w_frames).mpr ⟨w_running, w_runnable, w_alone, w_named, w_hears, w_ripe, w_room, w_tables⟩
theorem atStart : AtStart classFile x code maxLocals ret World_1 tables_1 room_1 Calls_1 rest_1 Pre_1 launch0 p0 e0 about1 theMethod args0 below0 :=
  ⟨lists_1, trivial, launch0.admits_env _ _ _, launch0.least_env, fairChoices_fair.cas, fairChoices_fair.clock, w_frames, w_args, w_heap, w_applies, trivial, trivial, w_case⟩
end start1
theorem witness_1 : WitnessClaimed_1 := ⟨start1.p0, start1.e0, start1.about1, start1.theMethod, start1.args0, start1.below0, start1.atStart⟩
end Jvm.Pilot.@@N@@
